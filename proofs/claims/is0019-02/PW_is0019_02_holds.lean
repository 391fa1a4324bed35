import PyProof.Rows.All
import Wide.All
import OpenK.AllK
import Wide.FinOn
import KE.KTryMore
import KE.KUnpack
import PySem.Challenge.RW_is0019_02
set_option Elab.async false
set_option linter.all false
set_option maxRecDepth 1000000
set_option tactic.hygienic false
set_option genInjectivity false
set_option genSizeOf false
namespace Mine
noncomputable def aaa:=@Option.some.inj
noncomputable def aab:=@List.all_eq_true
noncomputable def aac:=@Bool.and_eq_true_iff
noncomputable def aad:=@List.length_reverse
noncomputable def aae:=@List.isPrefixOf_iff_prefix
noncomputable def aaf:=@Nat.le_trans
noncomputable def aag:=@List.mem_cons_of_mem
noncomputable def aah:=@List.mem_of_getElem?
noncomputable def aai:=@List.mem_singleton
noncomputable def aaj:=@Bool.false_ne_true
noncomputable def aak:=@List.contains_iff_mem
noncomputable def aal:=@List.length_drop
noncomputable def aam:=@List.mem_cons_self
noncomputable def aan:=@Nat.le_of_ble_eq_true
noncomputable def aao:=@List.mem_append_right
noncomputable def aap:=@List.append_assoc
noncomputable def aaq:=@List.reverse_reverse
end Mine
section
open PySem PySem.W PyProof.Rows
namespace Mine
section
variable (tb:String→Option Builtin) (p:Program) (w:World) (n₀:Nat) (ann:Option Value) (c:Code) (B:List Frame)
noncomputable def Run {α:Type}(k:Nat) (x:Sem α) (s:Shared) (pos:Pos) (Q:Nat→α→Shared→Pos→Prop):Prop :=
 ∃ n a s' pos',Q (k+n) a s' pos'∧∀ (K:α→Sem Fin) (H:Value→Sem Fin) (gd:Bool→Bool) (lv:List Value→List Value),
  topGo tb p w n₀ ann n s ⟨x.wrap K H gd lv,c,pos,B⟩=some (s',⟨K a,c,pos',B⟩)
end
section
variable {tb:String→Option Builtin}{p:Program}{w:World}{n₀:Nat}{ann:Option Value}{c:Code}{B:List Frame}{α β:Type}{s:Shared}{pos:Pos}{j:Nat}
theorem aj {a:α}{Q:Nat→α→Shared→Pos→Prop}(h:Q j a s pos):Run tb p w n₀ ann c B j (.pure a) s pos Q:=⟨0,a,s,pos,h,fun zz zz zz zz=>rfl⟩
theorem zp {x:Sem α}{Q Q':Nat→α→Shared→Pos→Prop}(h:Run tb p w n₀ ann c B j x s pos Q) (m:∀ k a s' pos',Q k a s' pos'→Q' k a s' pos'):Run tb p w n₀ ann c B j x s pos Q':=by
 obtain ⟨n,a,s',pos',q,k⟩:=h
 exact ⟨n,a,s',pos',m _ _ _ _ q,k⟩
theorem iy {n m:Nat} : ∀ {s s' s'':Shared}{t t' t'':Thread},topGo tb p w n₀ ann n s t=some (s',t')→topGo tb p w n₀ ann m s' t'=some (s'',t'')→topGo tb p w n₀ ann (n+m) s t=some (s'',t''):=by
 induction n with
 | zero=>intro s s' s'' t t' t'' h k;simp [topGo] at h;obtain ⟨rfl,rfl⟩:=h;rw [Nat.zero_add];exact k
 | succ n ih =>
  intro s s' s'' t t' t'' h k
  rw [show n+1+m=(n+m)+1 by lia]
  unfold topGo at h ⊢
  cases ht:through t with
  | true=>rw [ht] at h;injection h
  | false =>
   rw [ht] at h
   cases hk:stepOk n₀ ann t with
   | false=>rw [hk] at h;injection h
   | true =>
    rw [hk] at h
    cases hs:step (denote tb) p w s t with
    | halt o s₂=>rw [hs] at h;injection h
    | go s₂ t₂=>rw [hs] at h;exact ih h k
theorem ak {x:Sem α}{f:α→Sem β}{Q:Nat→β→Shared→Pos→Prop}(h:Run tb p w n₀ ann c B j x s pos (fun k a s' pos'=>Run tb p w n₀ ann c B k (f a) s' pos' Q)):Run tb p w n₀ ann c B j (x >>= f) s pos Q:=by
 obtain ⟨n,a,s',pos',⟨m,b,s'',pos'',q,k'⟩,k⟩:=h
 refine ⟨n+m,b,s'',pos'',by rw [← Nat.add_assoc];exact q,fun K H gd lv=>?_⟩
 rw [Sem.bind_eq_wrap',Sem.wrap_wrap]
 have:=k (fun a=>(f a).wrap K H gd lv) (fun e=>((Sem.raise e:Sem β)).wrap K H gd lv) gd lv
 exact iy this (k' K H gd lv)
theorem zq {x:Sem α}{vs:List Value}{Q:Nat→α→Shared→Pos→Prop}(h:Run tb p w n₀ ann c B j x s pos Q):Run tb p w n₀ ann c B j (x.keep vs) s pos Q:=by
 obtain ⟨n,a,s',pos',q,k⟩:=h
 refine ⟨n,a,s',pos',q,fun K H gd lv=>?_⟩
 rw [Sem.keep_eq_wrap,Sem.wrap_wrap]
 exact k K H gd (fun l=>lv (vs++l))
theorem cQ {x:Sem α}{vs:List Value}{Q:Nat→α→Shared→Pos→Prop}(h:Run tb p w n₀ ann c B j x s pos Q):Run tb p w n₀ ann c B j (holding vs x) s pos Q:=by
 unfold PySem.holding
 split
 ·exact h
 ·exact zq h
theorem di {x x':Sem α}{s₁:Shared}{pos₁:Pos}{Q:Nat→α→Shared→Pos→Prop}
 (hs:∀ (K:α→Sem Fin) (H:Value→Sem Fin) (gd:Bool→Bool) (lv:List Value→List Value),through ⟨x.wrap K H gd lv,c,pos,B⟩=false∧stepOk n₀ ann ⟨x.wrap K H gd lv,c,pos,B⟩=true ∧
  step (denote tb) p w s ⟨x.wrap K H gd lv,c,pos,B⟩ = .go s₁ ⟨x'.wrap K H gd lv,c,pos₁,B⟩) (h:Run tb p w n₀ ann c B (j+1) x' s₁ pos₁ Q):Run tb p w n₀ ann c B j x s pos Q:=by
 obtain ⟨n,a,s',pos',q,k⟩:=h
 refine ⟨n+1,a,s',pos',by rw [show j+(n+1)=j+1+n by lia];exact q,fun K H gd lv=>?_⟩
 obtain ⟨h1,h2,h3⟩:=hs K H gd lv
 unfold topGo
 rw [h1,h2,h3]
 exact k K H gd lv
theorem lX {t:String}{k:Unit→Sem α}{Q:Nat→α→Shared→Pos→Prop}(h:Run tb p w n₀ ann c B (j+1) (k ()) s pos Q):Run tb p w n₀ ann c B j (.rule t k) s pos Q :=
 di (fun K H gd lv=>⟨by simp [Sem.wrap,through],rfl,rfl⟩) h
theorem mW {q:Pos}{k:Unit→Sem α}{Q:Nat→α→Shared→Pos→Prop}(h:Run tb p w n₀ ann c B (j+1) (k ()) s q Q):Run tb p w n₀ ann c B j (.at q k) s pos Q :=
 di (fun K H gd lv=>⟨by simp [Sem.wrap,through],rfl,rfl⟩) h
theorem hG {a:Addr}{part:Option Value}{o:Obj}{k:Obj→Sem α}{Q:Nat→α→Shared→Pos→Prop}(e:s.heap.get? a=some o) (h:Run tb p w n₀ ann c B (j+1) (k o) s pos Q):Run tb p w n₀ ann c B j (.load a part k) s pos Q:=by
 obtain ⟨heap,gens,drawn,toks,os⟩:=s
 exact di (fun K H gd lv=>⟨by simp [Sem.wrap,through],rfl,by simp only [Sem.wrap,step];rw [show heap.get? a=some o from e]⟩) h
theorem mX {a:Addr}{part:Option Value}{o:Obj}{f:Obj→Obj}{k:Unit→Sem α}{Q:Nat→α→Shared→Pos→Prop}(ha:n₀≤a) (e:s.heap.get? a=some o) (h:Run tb p w n₀ ann c B (j+1) (k ()) { s with heap:=s.heap.update a f} pos Q):Run tb p w n₀ ann c B j (.update a part f k) s pos Q:=by
 obtain ⟨heap,gens,drawn,toks,os⟩:=s
 refine di (fun K H gd lv=>⟨by simp [Sem.wrap,through],?_,?_⟩) h
 ·have:Nat.ble n₀ a=true:=Nat.ble_eq.mpr ha
  simp only [stepOk,Sem.wrap,this,Bool.true_or,Bool.and_true]
  rfl
 ·simp only [Sem.wrap,step]
  rw [show heap.get? a=some o from e];rfl
theorem xL {o:Obj}{k:Addr→Sem α}{Q:Nat→α→Shared→Pos→Prop}(h:Run tb p w n₀ ann c B (j+1) (k s.heap.objs.size) { s with heap:=s.heap.push o} pos Q):Run tb p w n₀ ann c B j (.alloc o k) s pos Q :=
 di (fun K H gd lv=>⟨by simp [Sem.wrap,through],rfl,rfl⟩) h
theorem pX {l:List Value}{k:Unit→Sem α}{Q:Nat→α→Shared→Pos→Prop}(h:Run tb p w n₀ ann c B (j+1) (k ()) s pos Q):Run tb p w n₀ ann c B j (.point l k) s pos Q :=
 di (fun K H gd lv=>⟨by simp [Sem.wrap,through],rfl,rfl⟩) h
theorem pY {k:Tok→Sem α}{Q:Nat→α→Shared→Pos→Prop}(h:Run tb p w n₀ ann c B (j+1) (k s.toks) { s with toks:=s.toks+1} pos Q):Run tb p w n₀ ann c B j (.fresh k) s pos Q :=
 di (fun K H gd lv=>⟨by simp [Sem.wrap,through],rfl,rfl⟩) h
theorem iZ {k:Setting→Sem α}{Q:Nat→α→Shared→Pos→Prop}(h:∀ st:Setting,st.params=w.params→Run tb p w n₀ ann c B (j+1) (k st) s pos Q):Run tb p w n₀ ann c B j (.ask k) s pos Q:=by
 obtain ⟨heap,gens,drawn,toks,os⟩:=s
 exact di (s₁:=⟨heap,gens,drawn,toks,os⟩) (pos₁:=pos) (fun K H gd lv=>⟨by simp [Sem.wrap,through],rfl,rfl⟩) (h _ rfl)
end
section
variable {p:Program}{w:World}{n₀:Nat}{ann:Option Value}{c:Code}{B:List Frame}{f:Frame}{α β:Type}{s:Shared}{pos:Pos}{j:Nat}
theorem qW {x:Str}{t:Tok}{Q:Nat→Value→Shared→Pos→Prop}(h:Q (j+5) (.int (hashStr w x) s.toks) { s with toks:=s.toks+1} pos):Run treeTable p w n₀ ann c (f :: B) j (call (.builtin "str.__hash__") [.str x t]) s pos Q:=by
 obtain ⟨heap,gens,drawn,toks,os⟩:=s
 refine ⟨5,.int (hashStr w x) toks,⟨heap,gens,drawn,toks+1,os⟩,pos,h,fun K H gd lv=>?_⟩
 kernel_rfl
theorem zr {x:Str}{t:Tok}{Q:Nat→Int→Shared→Pos→Prop}(h:Q (j+7) (hashStr w x) { s with toks:=s.toks+1} pos):Run treeTable p w n₀ ann c (f :: B) j (pyHash (.str x t)) s pos Q:=by
 have hl:typeLookup (.type "str") "__hash__"=pure (some (.builtin "str.__hash__")):=F.slot_str_hash.lookup
 have hb:=F.slot_str_hash.bind (.str x t)
 have e:bindSpecialIfBound? (.str x t) "__hash__"=(.ask fun st=>.pure (some (.builtin "str.__hash__",[.str x t]))):=by
  have sp:specialOf (.str x t) "__hash__"=pure (some (.builtin "str.__hash__")):=by
   unfold specialOf
   exact hl
  unfold bindSpecialIfBound?
  rw [sp]
  simp only [pure_bind,hb]
  show (Sem.ask fun st=>_)=_
  congr 1
  funext st
  show (if _ then _ else _)=_
  split<;>rfl
 unfold pyHash
 refine ak ?_
 unfold callSpecialIfBound?
 refine cQ ?_
 rw [e]
 refine ak (iZ fun st zz=>aj ?_)
 refine ak (qW ?_)
 refine aj ?_
 unfold strHash
 refine ak (iZ fun st hst=>aj ?_)
 refine aj ?_
 rw [hst]
 exact h
end
noncomputable abbrev j1 (w:World) (x:Str×Tok):Int×Value:=(hashStr w x.1,.str x.1 x.2)
noncomputable def aJ (w:World) (xs:List (Str×Tok)) (o:Obj):Prop :=
 ∃ es ep t,o=⟨.type "set",none,.set es ep t,#[]⟩∧t.fits es.size=true∧es.toList.Perm (xs.map (j1 w))
section
variable {p:Program}{w:World}{n₀:Nat}{ann:Option Value}{c:Code}{B:List Frame}{f:Frame}{α β:Type}{s:Shared}{pos:Pos}{j:Nat}
theorem j2 {a:Addr}{es:Array (Int×Value)}{ep:Nat}{t:SetTable}{Q:Nat→Array (Int×Value)×Nat×SetTable→Shared→Pos→Prop}(e:s.heap.get? a=some ⟨.type "set",none,.set es ep t,#[]⟩) (hf:t.fits es.size=true) (h:Q (j+1) (es,ep,t) s pos):Run treeTable p w n₀ ann c (f :: B) j (setState a) s pos Q:=by
 unfold setState
 refine ak (hG e (aj ?_))
 dsimp only
 unfold SetTable.fits at hf
 rw [Bool.and_eq_true,beq_iff_eq,decide_eq_true_eq] at hf
 rw [if_neg (by simp [hf.1];lia)]
 exact aj h
theorem hH {a:Addr}{es₀ es:Array (Int×Value)}{ep:Nat}{t₀ t:SetTable}{Q:Nat→Unit→Shared→Pos→Prop}(ha:n₀≤a) (e:s.heap.get? a=some ⟨.type "set",none,.set es₀ ep t₀,#[]⟩) (hs:es.size≤1000)
 (h:Q (j+2) () { s with heap:=s.heap.update a (Obj.putSet es t)} pos):Run treeTable p w n₀ ann c (f :: B) j (storeSet a es t) s pos Q:=by
 unfold storeSet
 refine ak (hG e (aj ?_))
 dsimp only
 rw [if_neg (by rw [sizeLine_eq];lia)]
 exact mX ha e (aj h)
theorem iP (h:Heap) (o:Obj) (g:Obj→Obj):(h.push o).update h.objs.size g=h.push (g o):=by
 obtain ⟨objs,l⟩:=h
 show (⟨(objs.push o).modify objs.size g,l⟩:Heap)=⟨objs.push (g o),l⟩
 congr 1
 apply Array.ext_getElem?
 intro i
 rw [Array.getElem?_modify,Array.getElem?_push,Array.getElem?_push]
 by_cases q:i=objs.size
 ·subst q;simp
 ·rw [if_neg q,if_neg (Ne.symm q),if_neg q]
theorem qX {b:Bool}{Q:Nat→Unit→Shared→Pos→Prop}(h:∀ i,i≤j+1→Q i () s pos):Run treeTable p w n₀ ann c (f :: B) j (match b with | true=>rule "set.scan.the-table-gave-way" | false=>pure ()) s pos Q:=by
 cases b
 ·exact aj (h _ (Nat.le_add_right _ _))
 ·exact lX (aj (h _ (Nat.le_refl _)))
theorem jr {xs ys:List (Int×Value)}{es:Array (Int×Value)}(h:es.toList.Perm xs):es.size=xs.length:=by rw [← h.length_eq];exact rfl
theorem vU {H:Heap}{tk:Nat}{gens:Array GenState}{drawn:Drawn}{os:OsState}{o:Obj}{xs:List (Str×Tok)}{x:Str}{t:Tok}{Q:Nat→Bool→Shared→Pos→Prop}(ha:n₀≤H.objs.size) (g:aJ w xs o) (hl:xs.length≤100) (hx:∀ y∈xs,y.1≠x)
 (h:∀ i,i≤j+20→∀ o',aJ w (xs++[(x,t)]) o'→Q i true ⟨H.push o',gens,drawn,tk+1,os⟩ pos):Run treeTable p w n₀ ann c (f :: B) j (setAdd H.objs.size (.str x t)) ⟨H.push o,gens,drawn,tk,os⟩ pos Q:=by
 obtain ⟨es,ep,tb,rfl,hf,hp⟩:=g
 have hsz:es.size=xs.length:=by rw [jr (ys:=[]) hp,List.length_map]
 have at0:∀ o:Obj,o.isFreed=false→(H.push o).get? H.objs.size=some o:=fun o e=>Heap.get?_push_size _ e
 unfold setAdd
 refine cQ (ak (zr ?_))
 unfold setAddHashed setAddHashedIn
 refine cQ (ak (j2 (at0 _ rfl) hf ?_))
 dsimp only
 have mem:∀ e∈es.toList,∃ y∈xs,e=j1 w y:=fun e he=>by
  obtain ⟨y,hy,rfl⟩:=List.mem_map.mp (hp.mem_iff.mp he);exact ⟨y,hy,rfl⟩
 have bs:byScan (.str x t) es=true:=by
  unfold byScan
  rw [Bool.and_eq_true,Bool.and_eq_true]
  refine ⟨⟨rfl,decide_eq_true (by unfold scanBound;omega)⟩,?_⟩
  rw [← Array.all_toList,aab]
  intro e he
  obtain ⟨y,_,rfl⟩:=mem e he;rfl
 rw [if_pos bs]
 refine ak ?_
 unfold setAddByScan
 refine ak (lX (aj ?_))
 have sc:setScan H.objs.size (.str x t) (hashStr w x) true es=pure .absent:=by
  unfold setScan
  dsimp only
  rw [if_pos (by
   rw [← Array.all_toList,aab]
   intro e he
   obtain ⟨y,_,rfl⟩:=mem e he;rfl)]
  unfold setScanStrs
  have:es.findIdx? (·.2.isStr x)=none:=by
   rw [Array.findIdx?_eq_none_iff]
   intro e he
   obtain ⟨y,hy,rfl⟩:=mem e (Array.mem_toList_iff.mpr he)
   exact beq_eq_false_iff_ne.mpr (hx y hy)
  rw [this]
 rw [sc]
 refine ak (aj ?_)
 have hperm:=layNew_perm tb es (hashStr w x) (.str x t)
 have hfits:=layNew_fits tb es (hashStr w x) (.str x t)
 generalize layNew tb es (hashStr w x) (.str x t)=L at hperm hfits ⊢
 obtain ⟨es1,t1,wasDummy,gave⟩:=L
 dsimp only at hperm hfits ⊢
 rw [Array.toList_push] at hperm
 have hp1:es1.toList.Perm ((xs++[(x,t)]).map (j1 w)):=by
  rw [List.map_append]
  exact hperm.trans (hp.append_right _)
 have hsz1:es1.size=xs.length+1:=by rw [jr (ys:=[]) hp1,List.length_map,List.length_append];rfl
 refine ak (qX fun i hi=>?_)
 have tail:∀ t2:SetTable,t2.fits es1.size=true→Run treeTable p w n₀ ann c (f :: B) i (do
  storeSet H.objs.size es1 t2
  if (!wasDummy&&t2.tooFull)=true then do
   let (es,t,gave):=relayAll t2 es1 (SetTable.grown es1.size)
   (match gave with | true=>rule "set.scan.the-table-gave-way" | false=>pure ())
   storeSet H.objs.size es t
   pure (some true)
  else pure (some true)) ⟨H.push ⟨.type "set",none,.set es ep tb,#[]⟩,gens,drawn,tk+1,os⟩ pos (fun k r s' pos'=>Run treeTable p w n₀ ann c (f :: B) k (match r with | some added=>pure added | none=>setAddHashedIn H.objs.size (.str x t) (hashStr w x) 99999) s' pos' Q):=by
  intro t2 hf2
  refine ak (hH (es₀:=es) (ep:=ep) (t₀:=tb) ha (at0 _ rfl) (by lia) ?_)
  rw [show (({ heap:=H.push ⟨.type "set",none,.set es ep tb,#[]⟩,gens:=gens,drawn:=drawn,toks:=tk+1,os:=os} : Shared).heap.update H.objs.size (Obj.putSet es1 t2))=H.push ⟨.type "set",none,.set es1 (ep+1) t2,#[]⟩ from iP _ _ _]
  split
  ·have hperm2:=relayAll_perm t2 es1 (SetTable.grown es1.size)
   have hfits2:=relayAll_fits t2 es1 (SetTable.grown es1.size)
   generalize relayAll t2 es1 (SetTable.grown es1.size)=L2 at hperm2 hfits2 ⊢
   obtain ⟨es3,t3,gave2⟩:=L2
   have hsz3:es3.size=xs.length+1:=by rw [← hsz1,jr (ys:=[]) hperm2,Array.length_toList]
   refine ak (qX fun i2 hi2=>?_)
   refine ak (hH (es₀:=es1) (ep:=ep+1) (t₀:=t2) ha (at0 _ rfl) (by lia) ?_)
   rw [show (({ heap:=H.push ⟨.type "set",none,.set es1 (ep+1) t2,#[]⟩,gens:=gens,drawn:=drawn,toks:=tk+1,os:=os} : Shared).heap.update H.objs.size (Obj.putSet es3 t3))=H.push ⟨.type "set",none,.set es3 (ep+1+1) t3,#[]⟩ from iP _ _ _]
   exact aj (aj (h _ (by lia) _ ⟨es3,_,t3,rfl,hfits2,hperm2.trans hp1⟩))
  ·exact aj (aj (h _ (by lia) _ ⟨es1,_,t2,rfl,hf2,hp1⟩))
 split
 ·refine ak ?_
  rw [hashByValue_scannable 8 rfl]
  refine aj ?_
  refine tail _ ?_
  split
  ·exact hfits
  ·exact SetTable.fits_plain_off hfits
 ·refine ak (aj ?_)
  simp only [if_true]
  exact tail _ hfits
end
section
variable {p:Program}{w:World}{n₀:Nat}{ann:Option Value}{c:Code}{B:List Frame}{f:Frame}{α β:Type}{s:Shared}{pos:Pos}{j:Nat}
noncomputable def av (xs:List Str) (tk:Nat):List (Str×Tok) :=
 match xs with
 | []=>[]
 | x :: r=>(x,tk) :: av r (tk+1)
noncomputable def Bh (y:Str×Tok):Value:=.str y.1 y.2
theorem fi:∀ (xs:List Str) (tk:Nat),(av xs tk).map (·.1)=xs
 | [],_=>rfl
 | x :: r,tk=>by unfold av;rw [List.map_cons,fi r]
theorem lM {elt:Str→Sem Value}(helt:∀ (j:Nat) (x:Str) (s:Shared) (Q:Nat→Value→Shared→Pos→Prop),Q (j+2) (.str x s.toks) { s with toks:=s.toks+1} pos→Run treeTable p w n₀ ann c (f :: B) j (elt x) s pos Q) :
 ∀ (xs:List Str) (j:Nat) (s:Shared) (Q:Nat→List Value→Shared→Pos→Prop),Q (j+2*xs.length) ((av xs s.toks).map Bh) { s with toks:=s.toks+xs.length} pos→Run treeTable p w n₀ ann c (f :: B) j (evalAll (xs.map elt)) s pos Q
 | [],j,s,Q,h=>aj h
 | x :: r,j,s,Q,h=>by
  refine ak (helt j x s _ (ak (cQ (lM helt r _ _ _ (aj ?_)))))
  have:s.toks+(x :: r).length=s.toks+1+r.length:=by simp only [List.length_cons];lia
  rw [this] at h
  rw [show j+2*(x :: r).length=j+2+2*r.length by simp only [List.length_cons];lia] at h
  exact h
theorem qY {H:Heap}{gens:Array GenState}{drawn:Drawn}{os:OsState}{Q:Nat→PUnit→Shared→Pos→Prop}(ha:n₀≤H.objs.size) (g:Value→PUnit→Sem (ForInStep PUnit)) (hg:∀ v u,g v u=(do let _ ← setAdd H.objs.size v;pure (.yield ⟨⟩))) :
 ∀ (ys xs:List (Str×Tok)) (j tk:Nat) (o:Obj),aJ w xs o→(xs++ys).length≤100→((xs++ys).map (·.1)).Nodup→(∀ i,i≤j+20*ys.length→∀ o',aJ w (xs++ys) o'→Q i ⟨⟩ ⟨H.push o',gens,drawn,tk+ys.length,os⟩ pos)→Run treeTable p w n₀ ann c (f :: B) j (forIn (ys.map Bh) ⟨⟩ g) ⟨H.push o,gens,drawn,tk,os⟩ pos Q
 | [],xs,j,tk,o,go,hl,nd,h=>by
  rw [List.map_nil,List.forIn_nil]
  rw [List.append_nil] at h
  exact aj (h _ (Nat.le_refl _) o go)
 | y :: ys,xs,j,tk,o,go,hl,nd,h=>by
  rw [List.map_cons,List.forIn_cons,hg]
  have e:xs++y :: ys=(xs++[y])++ys:=by rw [aap];rfl
  rw [e] at hl nd h
  have nd':=nd
  rw [List.map_append,List.map_append,aap,List.nodup_append] at nd'
  refine ak (ak (vU ha go (by simp only [List.length_append,List.length_singleton] at hl;lia) (fun z hz q=>nd'.2.2 _ (List.mem_map_of_mem hz) y.1 aam q) fun i hi o' g'=>aj ?_))
  refine qY ha g hg ys (xs++[y]) i (tk+1) o' g' hl nd fun i2 hi2 o'' g''=>?_
  have:=h i2 (by simp only [List.length_cons];lia) o'' g''
  rw [show tk+(y :: ys).length=tk+1+ys.length by simp only [List.length_cons];lia] at this
  exact this
theorem qZ {H:Heap}{tk:Nat}{gens:Array GenState}{drawn:Drawn}{os:OsState}{o:Obj}{xs:List (Str×Tok)}{Q:Nat→Unit→Shared→Pos→Prop}(ha:n₀≤H.objs.size) (g:aJ w xs o) (hl:xs.length≤100)
 (h:∀ o',aJ w xs o'→Q (j+3) () ⟨H.push o',gens,drawn,tk,os⟩ pos):Run treeTable p w n₀ ann c (f :: B) j (setUnled H.objs.size) ⟨H.push o,gens,drawn,tk,os⟩ pos Q:=by
 obtain ⟨es,ep,tb,rfl,hf,hp⟩:=g
 have hsz:es.size=xs.length:=by rw [jr (ys:=[]) hp,List.length_map]
 have at0:(H.push ⟨.type "set",none,.set es ep tb,#[]⟩).get? H.objs.size=some ⟨.type "set",none,.set es ep tb,#[]⟩:=Heap.get?_push_size _ rfl
 unfold setUnled
 refine ak (j2 at0 hf ?_)
 refine hH (es₀:=es) (ep:=ep) (t₀:=tb) ha at0 (by lia) ?_
 rw [show (({ heap:=H.push ⟨.type "set",none,.set es ep tb,#[]⟩,gens:=gens,drawn:=drawn,toks:=tk,os:=os} : Shared).heap.update H.objs.size (Obj.putSet es { tb with led:=false}))=H.push ⟨.type "set",none,.set es (ep+1) { tb with led:=false},#[]⟩ from iP _ _ _]
 exact h _ ⟨es,_,_,rfl,hf,hp⟩
theorem tI {H:Heap}{tk:Nat}{gens:Array GenState}{drawn:Drawn}{os:OsState}{elt:Str→Sem Value}{b:Bool}{xs:List Str}{Q:Nat→Value→Shared→Pos→Prop}(ha:n₀≤H.objs.size) (hl:xs.length≤30) (nd:xs.Nodup)
 (helt:∀ (j:Nat) (x:Str) (s:Shared) (Q:Nat→Value→Shared→Pos→Prop),Q (j+2) (.str x s.toks) { s with toks:=s.toks+1} pos→Run treeTable p w n₀ ann c (f :: B) j (elt x) s pos Q)
 (h:∀ i,i≤j+25*xs.length+10→∀ o',aJ w (av xs tk) o'→Q i (.ref H.objs.size) ⟨H.push o',gens,drawn,tk+xs.length+xs.length,os⟩ pos):Run treeTable p w n₀ ann c (f :: B) j (setDisplay .unsure b (xs.map fun x=>(false,elt x))) ⟨H,gens,drawn,tk,os⟩ pos Q:=by
 unfold setDisplay
 rw [if_neg (by decide)]
 have hnew:∀ (Q':Nat→Value→Shared→Pos→Prop),(∀ led:Bool,Q' (j+2) (.ref H.objs.size) ⟨H.push ⟨.type "set",none,.set #[] 0 (.fresh 0 0 led),#[]⟩,gens,drawn,tk,os⟩ pos)→Run treeTable p w n₀ ann c (f :: B) j (newSet (.type "set")) ⟨H,gens,drawn,tk,os⟩ pos Q':=fun Q' hq=>by
  unfold newSet setsByText
  refine ak (ak (iZ fun st zz=>aj (aj ?_)))
  unfold newObj
  refine ak (xL (aj ?_))
  exact aj (hq _)
 refine ak (hnew _ fun led=>?_)
 dsimp only
 have nf:(if (xs.map fun x=>(false,elt x)).length>30 then 0 else ((xs.map fun x=>(false,elt x)).findIdx? (·.1)).getD (xs.map fun x=>(false,elt x)).length)=xs.length:=by
  rw [List.length_map,if_neg (Nat.not_lt_of_le (by assumption))]
  have:(xs.map fun x=>(false,elt x)).findIdx? (·.1)=none:=by
   rw [List.findIdx?_eq_none_iff]
   intro e he
   obtain ⟨y,_,rfl⟩:=List.mem_map.mp he;rfl
  rw [this];rfl
 rw [nf]
 have tk1:((xs.map fun x=>(false,elt x)).take xs.length).map (·.2)=xs.map elt:=by
  rw [List.take_of_length_le (by rw [List.length_map];exact Nat.le_refl _),List.map_map];rfl
 have dr:(xs.map fun x=>(false,elt x)).drop xs.length=[]:=List.drop_of_length_le (by rw [List.length_map];exact Nat.le_refl _)
 rw [tk1,dr]
 refine ak (cQ (ak (lM helt xs _ _ _ ?_)))
 have ml:(av xs tk).length=xs.length:=by
  have:=congrArg List.length (fi xs tk)
  rwa [List.length_map] at this
 refine ak (cQ (ak (qY ha _ (fun v u=>rfl) (av xs tk) [] _ _ _ ⟨#[],0,.fresh 0 0 led,rfl,rfl,List.Perm.nil⟩ (by rw [List.nil_append,ml];exact aaf (by assumption) (by decide)) (by rw [List.nil_append,fi];exact nd) fun i hi o' g'=>?_)))
 rw [List.nil_append] at g'
 rw [if_pos (by decide)]
 refine ak (lX (aj (qZ ha g' (by lia) fun o'' g''=>?_)))
 rw [List.forIn_nil]
 refine aj (aj ?_)
 rw [ml]
 rw [ml] at hi
 exact h _ (by lia) o'' g''
end
noncomputable def mkC (e:Str×Nat×Pos):Expr:=.Constant (.str e.1) e.2.1 e.2.2
inductive oY (es:List Expr) (xs:List Str):Prop where
 | mk (ps:List (Str×Nat×Pos)) (e:es=ps.map mkC) (q:xs=ps.map (·.1))
theorem pZ {env:Env}{pos:Pos} : ∀ ps:List (Str×Nat×Pos),((starEach (ps.map mkC) env).map fun (star,t)=>(star,do let v ← t;standAt pos;pure v))=(ps.map (·.1)).map fun x=>(false,(do let v ← mkText x;standAt pos;pure v:Sem Value))
 | []=>rfl
 | p :: ps=>congrArg (_ :: ·) (pZ (env:=env) (pos:=pos) ps)
section
variable {p:Program}{w:World}{n₀:Nat}{ann:Option Value}{c:Code}{B:List Frame}{f:Frame}{α β:Type}{s:Shared}{pos:Pos}{env:Env}{j:Nat}
theorem vV {Q:Nat→Bool→Shared→Pos→Prop}(hc:env.code = .none∨∃ a o vs,env.code = .ref a∧s.heap.get? a=some o∧o.data = .fields vs) (h:∀ i,i≤j+2→∀ b,Q i b s pos):Run treeTable p w n₀ ann c (f :: B) j (inMainModule env) s pos Q:=by
 unfold inMainModule
 rcases hc with hc | ⟨a,o,vs,hc,e,hd⟩
 ·rw [hc,if_pos (by rfl)];exact aj (h _ (Nat.le_add_right _ _) _)
 ·rw [hc,if_neg (by intro q;injection q)]
  have:Run treeTable p w n₀ ann c (f :: B) j (fieldsOf (.ref a)) s pos (fun i vs' s' pos'=>i=j+1∧vs'=vs∧s'=s∧pos'=pos):=by
   unfold fieldsOf
   refine ak (hG e (aj ?_))
   rw [hd]
   exact aj ⟨rfl,rfl,rfl,rfl⟩
  refine ak (zp this ?_)
  rintro _ _ _ _ ⟨rfl,rfl,rfl,rfl⟩
  split
  ·exact ak (iZ fun st zz=>aj (aj (h _ (Nat.le_refl _) _)))
  ·exact aj (h _ (Nat.le_succ _) _)
theorem BU {H:Heap}{tk:Nat}{gens:Array GenState}{drawn:Drawn}{os:OsState}{es:List Expr}{xs:List Str}{q:Pos}{Q:Nat→Value→Shared→Pos→Prop}(he:oY es xs) (hr:displayRoad 0 es = .unsure) (ha:n₀≤H.objs.size) (hl:xs.length≤30) (nd:xs.Nodup)
 (hc:env.code = .none∨∃ a o vs,env.code = .ref a∧H.get? a=some o∧o.data = .fields vs)
 (h:∀ i,i≤j+25*xs.length+20→∀ o',aJ w (av xs tk) o'→Q i (.ref H.objs.size) ⟨H.push o',gens,drawn,tk+xs.length+xs.length,os⟩ q):Run treeTable p w n₀ ann c (f :: B) j (eval (.Set es 0 q) env) ⟨H,gens,drawn,tk,os⟩ pos Q:=by
 rw [arm_eval_Set,hr]
 refine ak (mW (aj (ak (vV hc fun i hi b=>?_))))
 obtain ⟨ps,rfl,rfl⟩:=he
 rw [pZ]
 refine tI ha hl nd (fun j x s Q hq=>?_) fun i2 hi2=>h i2 (by lia)
 unfold mkText
 refine ak (ak (pY (aj (aj ?_))))
 exact ak (mW (aj (aj hq)))
noncomputable def dl (w:World) (x:Str):Int:=if x.cps.isEmpty then 0 else reduceHash (w.params.strHash x.cps)
theorem xM {H:Heap}{tk:Nat}{gens:Array GenState}{drawn:Drawn}{os:OsState}{a:Addr}{nm:Str}{v:Value}{cl:Value}{od:Option Addr}{es:Array DictEntry}{ep:Nat}{sl:Array (Option Value)}{Q:Nat→Unit→Shared→Pos→Prop}(ha:n₀≤a) (e:H.get? a=some ⟨cl,od,.dict es ep,sl⟩)
 (hk:aRefKeyMayBeTheName nm es=false) (h:Q (j+4) () ⟨H.update a (Obj.putName nm (dl w nm) (.str nm tk) v),gens,drawn,tk+1,os⟩ pos):Run treeTable p w n₀ ann c (f :: B) j (nsSet a nm v) ⟨H,gens,drawn,tk,os⟩ pos Q:=by
 unfold nsSet strHash mkText
 refine ak (ak (iZ fun st hst=>aj (aj ?_)))
 refine ak (ak (pY (aj (aj ?_))))
 refine ak (hG e (aj ?_))
 dsimp only
 rw [hk,if_neg (by decide),hst]
 exact mX ha e (aj h)
theorem tJ {H:Heap}{tk:Nat}{gens:Array GenState}{drawn:Drawn}{os:OsState}{es:List Expr}{xs:List Str}{p1 p2 p3:Pos}{nm:Str}{ds:Array DictEntry}{ep:Nat}{od:Option Addr}{sl:Array (Option Value)}{Q:Nat→Flow→Shared→Pos→Prop}
 (he:oY es xs) (hr:displayRoad 0 es = .unsure) (hl:xs.length≤30) (nd:xs.Nodup) (hc:env.code = .none∨∃ a o vs,env.code = .ref a∧H.get? a=some o∧o.data = .fields vs)
 (hk:env.scope.kind = .class) (hn:env.kindOf nm=some .local) (hd:H.get? env.locals=some ⟨.type "dict",od,.dict ds ep,sl⟩) (hf:aRefKeyMayBeTheName nm ds=false) (ha:n₀≤env.locals)
 (h:∀ i,i≤j+25*xs.length+60→∀ o',aJ w (av xs tk) o'→Q i .next ⟨(H.push o').update env.locals (Obj.putName nm (dl w nm) (.str nm (tk+xs.length+xs.length)) (.ref H.objs.size)),gens,drawn,tk+xs.length+xs.length+1,os⟩ p1) :
 Run treeTable p w n₀ ann c (f :: B) j (exec (.Assign [.Name nm p1] (.Set es 0 p2) p3) env) ⟨H,gens,drawn,tk,os⟩ pos Q:=by
 rw [exec_Assign_Name _ _ _ _ _ rfl]
 have hlt:env.locals<H.objs.size:=Heap.lt_size hd
 refine ak (mW (aj (ak (BU he hr (Nat.le_of_lt (Nat.lt_of_le_of_lt ha hlt)) hl nd hc fun i hi o' g=>?_))))
 refine ak (mW (aj (ak ?_)))
 unfold bindName
 refine ak (cQ (pX (aj (ak ?_))))
 unfold storeName
 rw [hn]
 dsimp only
 have:((some NameKind.local==some NameKind.globalImplicit)&&env.blockKind != ScopeKind.function)=false:=rfl
 rw [this,if_neg (by decide)]
 dsimp only
 rw [if_pos (by rw [hk];rfl)]
 unfold localSet
 have hd':(H.push o').get? env.locals=some ⟨.type "dict",od,.dict ds ep,sl⟩:=Heap.get?_push_of_some _ hd
 refine ak (hG (s:=⟨H.push o',gens,drawn,_,os⟩) hd' (aj ?_))
 rw [if_pos (by rfl)]
 exact xM ha hd' hf (pX (aj (aj (h _ (by lia) o' g))))
end
noncomputable def i4 (H:Heap) (a:Addr):Prop:=∃ es n,H.get? a=some (dictOf es n)∧es.any (·.refKey)=false
theorem q9 {nm:Str}{hsh:Int}{tk:Tok}{v:Value} : ∀ {es:List DictEntry},es.any (·.refKey)=false→(putL nm hsh (.str nm tk) v es).any (·.refKey)=false
 | [],_=>rfl
 | e :: r,h=>by
  rw [List.any_cons,Bool.or_eq_false_iff] at h
  unfold putL
  split
  ·rw [List.any_cons,Bool.or_eq_false_iff]
   exact ⟨h.1,h.2⟩
  ·rw [List.any_cons,Bool.or_eq_false_iff]
   exact ⟨h.1,q9 h.2⟩
theorem i4.put {H:Heap}{a:Addr}{nm:Str}{hsh:Int}{tk:Tok}{v:Value}{o:Obj}(h:i4 H a):i4 ((H.push o).update a (Obj.putName nm hsh (.str nm tk) v)) a:=by
 obtain ⟨es,n,e,r⟩:=h
 refine ⟨putL nm hsh (.str nm tk) v es,putN nm es n,?_,q9 r⟩
 have:=Heap.get?_update_self (h:=H.push o) (Obj.putName nm hsh (.str nm tk) v) (Heap.get?_push_of_some o e) (by rw [putName_dict];rfl)
 rw [this,putName_dict]
noncomputable def aW (env:Env) (l:List Stmt):Sem Fin:=((execs l env).onRaise (leaving env)).bind fun f=>Sem.pure (Fin.done f)
theorem mY (env:Env) (l:List Stmt):aW env l=(execs l env).wrap doneF (leaveH env) id id:=by
 unfold aW
 rw [Sem.bind_eq_wrap,Sem.onRaise_eq_wrap,Sem.wrap_wrap]
 rfl
structure cm where
 nm:Str
 es:List Expr
 xs:List Str
 p1:Pos
 p2:Pos
 p3:Pos
noncomputable def cm.st (t:cm):Stmt:=.Assign [.Name t.nm t.p1] (.Set t.es 0 t.p2) t.p3
structure cm.Ok (t:cm) (env:Env):Prop where
 xs:oY t.es t.xs
 road:displayRoad 0 t.es = .unsure
 few:t.xs.length≤30
 nd:t.xs.Nodup
 loc:env.kindOf t.nm=some .local
noncomputable def cm.heap (w:World) (t:cm) (a:Addr) (H:Heap) (tk:Nat) (o:Obj):Heap:=(H.push o).update a (Obj.putName t.nm (dl w t.nm) (.str t.nm (tk+t.xs.length+t.xs.length)) (.ref H.objs.size))
noncomputable def cm.tk (t:cm) (tk:Nat):Nat:=tk+t.xs.length+t.xs.length+1
section
variable {p:Program}{w:World}{n₀:Nat}{ann:Option Value}{c:Code}{B:List Frame}{f:Frame}{pos:Pos}{env:Env}{H:Heap}{tk:Nat}{gens:Array GenState}{drawn:Drawn}{os:OsState}
structure kL (n₀:Nat) (env:Env) (H:Heap):Prop where
 code:env.code = .none∨∃ a o vs,env.code = .ref a∧a≠env.locals∧H.get? a=some o∧o.data = .fields vs
 cls:env.scope.kind = .class
 ns:i4 H env.locals
 low:n₀≤env.locals
theorem kL.next {t:cm}{o:Obj}(E:kL n₀ env H):kL n₀ env (t.heap w env.locals H tk o):=by
 refine ⟨?_,E.cls,E.ns.put,E.low⟩
 rcases E.code with h | ⟨a,o',vs,h1,h2,h3,h4⟩
 ·exact .inl h
 ·exact .inr ⟨a,o',vs,h1,h2,(Heap.get?_update_ne _ _ _ _ h2).trans (Heap.get?_push_of_some _ h3),h4⟩
theorem lY (t:cm) (T:t.Ok env) (E:kL n₀ env H) (rest:List Stmt):∃ n o,n≤25*t.xs.length+60∧aJ w (av t.xs tk) o ∧
 topGo treeTable p w n₀ ann n ⟨H,gens,drawn,tk,os⟩ ⟨aW env (t.st :: rest),c,pos,f :: B⟩=some (⟨t.heap w env.locals H tk o,gens,drawn,t.tk tk,os⟩,⟨aW env rest,c,t.p1,f :: B⟩):=by
 obtain ⟨es,n,hd,hr⟩:=E.ns
 have hf:aRefKeyMayBeTheName t.nm es.toArray=false:=by
  rw [aRefKeyMayBeTheName_at]
  have:es.toArray.any (·.refKey)=false:=by rw [← Array.any_toList];exact hr
  rw [this,Bool.and_false]
 have:=tJ (p:=p) (w:=w) (n₀:=n₀) (ann:=ann) (c:=c) (B:=B) (f:=f) (pos:=pos) (env:=env) (H:=H) (tk:=tk) (gens:=gens) (drawn:=drawn) (os:=os) (es:=t.es) (xs:=t.xs) (p1:=t.p1) (p2:=t.p2) (p3:=t.p3) (nm:=t.nm) (ds:=es.toArray) (ep:=n) (od:=none) (sl:=#[])
  (j:=0) (Q:=fun i fl s' pos'=>i≤25*t.xs.length+60∧fl = .next∧pos'=t.p1∧∃ o,aJ w (av t.xs tk) o∧s'=⟨t.heap w env.locals H tk o,gens,drawn,t.tk tk,os⟩) T.xs T.road T.few T.nd
  (E.code.imp id fun ⟨a,o,vs,h1,_,h3,h4⟩=>⟨a,o,vs,h1,h3,h4⟩) E.cls T.loc hd hf E.low (fun i hi o' g=>⟨by omega,rfl,rfl,o',g,rfl⟩)
 obtain ⟨m,fl,s',pos',⟨hm,rfl,rfl,o,g,rfl⟩,k⟩:=this
 refine ⟨m,o,by omega,g,?_⟩
 rw [mY,mY,execs_cons_wrap]
 exact k _ _ _ _
theorem vW (t1 t2 t3:cm) (T1:t1.Ok env) (T2:t2.Ok env) (T3:t3.Ok env) (E:kL n₀ env H) (rest:List Stmt):∃ n o1 o2 o3,n≤25*(t1.xs.length+t2.xs.length+t3.xs.length)+180∧aJ w (av t1.xs tk) o1∧aJ w (av t2.xs (t1.tk tk)) o2∧aJ w (av t3.xs (t2.tk (t1.tk tk))) o3 ∧
 topGo treeTable p w n₀ ann n ⟨H,gens,drawn,tk,os⟩ ⟨aW env (t1.st :: t2.st :: t3.st :: rest),c,pos,f :: B⟩ =
  some (⟨t3.heap w env.locals (t2.heap w env.locals (t1.heap w env.locals H tk o1) (t1.tk tk) o2) (t2.tk (t1.tk tk)) o3,gens,drawn,t3.tk (t2.tk (t1.tk tk)),os⟩,⟨aW env rest,c,t3.p1,f :: B⟩):=by
 obtain ⟨n1,o1,b1,g1,k1⟩:=lY (p:=p) (w:=w) (ann:=ann) (c:=c) (B:=B) (f:=f) (pos:=pos) (tk:=tk) (gens:=gens) (drawn:=drawn) (os:=os) t1 T1 E (t2.st :: t3.st :: rest)
 obtain ⟨n2,o2,b2,g2,k2⟩:=lY (p:=p) (w:=w) (ann:=ann) (c:=c) (B:=B) (f:=f) (pos:=t1.p1) (tk:=t1.tk tk) (gens:=gens) (drawn:=drawn) (os:=os) t2 T2 (E.next (w:=w) (t:=t1) (tk:=tk) (o:=o1)) (t3.st :: rest)
 obtain ⟨n3,o3,b3,g3,k3⟩:=lY (p:=p) (w:=w) (ann:=ann) (c:=c) (B:=B) (f:=f) (pos:=t2.p1) (tk:=t2.tk (t1.tk tk)) (gens:=gens) (drawn:=drawn) (os:=os) t3 T3 ((E.next (w:=w) (t:=t1) (tk:=tk) (o:=o1)).next (w:=w) (t:=t2) (tk:=t1.tk tk) (o:=o2)) rest
 exact ⟨n1+(n2+n3),o1,o2,o3,by lia,g1,g2,g3,iy k1 (iy k2 k3)⟩
end
noncomputable def bt (f:Nat→Obj) (n:Nat):Nat→Nat→Nat→BT
 | 0,_,_=>.nil
 | k+1,a,b=>match Nat.blt b n with
  | true=>.node (f b) (bt f n k (2*a) (a+b)) (bt f n k (2*a) (2*a+b))
  | false=>.nil
theorem rd (f:Nat→Obj) (n:Nat):∀ (k a b i:Nat),0<a→b+a*i<n→i+1<2 ^ k→(bt f n k a b).get i=some (f (b+a*i))
 | 0,a,b,i,_,_,h=>by simp at h
 | k+1,a,b,i,ha,hn,hk=>by
  have lt:b<n:=Nat.lt_of_le_of_lt (Nat.le_add_right _ _) hn
  unfold bt
  rw [show Nat.blt b n=true from Nat.ble_eq_true_of_le lt]
  rw [BT.get_node]
  by_cases h0:i=0
  ·subst h0;exact rfl
  ·rw [if_neg h0]
   rw [Nat.pow_succ] at hk
   have sw:∀ a b X:Nat,a+b+X=b+(X+a):=fun a b X=>by rw [Nat.add_comm a b,Nat.add_assoc,Nat.add_comm a X]
   have dm:=Nat.div_add_mod i 2
   have pa:0<2*a:=Nat.mul_pos (by decide) ha
   by_cases h1:i % 2=1
   ·rw [if_pos h1]
    rw [h1] at dm
    generalize i / 2=j at dm ⊢
    subst dm
    have e2:a+b+2*a*j=b+a*(2*j+1):=by rw [Nat.mul_add,Nat.mul_one,← Nat.mul_assoc,Nat.mul_comm a 2];exact sw _ _ _
    rw [rd f n k (2*a) (a+b) j pa (by rw [e2];exact hn) (Nat.lt_of_mul_lt_mul_left (a:=2) (Nat.mul_comm 2 (2 ^ k)▸hk)),e2]
   ·rw [if_neg h1]
    rw [(Nat.mod_two_eq_zero_or_one i).resolve_right h1,Nat.add_zero] at dm
    cases hj:i / 2 with
    | zero=>rw [hj] at dm;exact absurd dm.symm h0
    | succ j =>
     rw [hj] at dm
     subst dm
     have e2:2*a+b+2*a*j=b+a*(2*(j+1)):=by rw [Nat.mul_add,Nat.mul_add,← Nat.mul_assoc,Nat.mul_comm a 2];exact sw _ _ _
     rw [Nat.add_sub_cancel,rd f n k (2*a) (2*a+b) j pa (by rw [e2];exact hn) (Nat.lt_of_mul_lt_mul_left (a:=2) (Nat.mul_comm 2 (2 ^ k)▸Nat.lt_of_succ_lt hk)),e2]
noncomputable def cV (f:Nat→Obj) (n:Nat):BT:=bt f n 12 1 0
theorem zt {f:Nat→Obj}{n i:Nat}(h:i<n) (hn:n≤4000):(cV f n).get i=some (f i):=by
 have:=rd f n 12 1 0 i (Nat.le_refl _) (by omega) (by lia)
 simpa [cV] using this
noncomputable def atO (h:Heap) (i:Nat):Obj:=(h.objs[i]?).getD default
theorem hJ {h:Heap}(hn:h.objs.size≤4000):absHeap (cV (atO h) h.objs.size) h.objs.size h.life=h:=by
 obtain ⟨objs,life⟩:=h
 have:(absHeap (cV (atO ⟨objs,life⟩) objs.size) objs.size life).objs=objs:=by
  apply Array.ext_getElem?
  intro i
  rw [absHeap_at]
  by_cases q:i<objs.size
  ·rw [if_pos q,zt q hn]
   simp [atO,q]
  ·rw [if_neg q];simp [q]
 exact congrArg (Heap.mk · life) this
noncomputable def ov (f:Nat→Obj):List (Nat×Obj)→Nat→Obj
 | [],i=>f i
 | (a,o) :: r,i=>match Nat.beq i a with
  | true=>o
  | false=>ov f r i
theorem uM {f:Nat→Obj}{i:Nat} : ∀ {l:List (Nat×Obj)},(∀ p∈l,f p.1=p.2)→ov f l i=f i
 | [],_=>rfl
 | (a,o) :: r,h=>by
  unfold ov
  cases q:Nat.beq i a with
  | true=>rw [Nat.eq_of_beq_eq_true q];exact (h (a,o) aam).symm
  | false=>exact uM fun p hp=>h p (aag _ hp)
theorem d7 {h:Heap}{a:Addr}{o:Obj}(e:h.get? a=some o):atO h a=o:=by
 unfold Heap.get? at e
 unfold atO
 split at e
 ·injection e
 ·rw [e];rfl
section
variable {p:Program}{w:World}{n₀:Nat}{ann:Option Value}
set_option tactic.hygienic true in
theorem p4:∀ {n:Nat}{s s':Shared}{t t':Thread},segGo treeTable p w n₀ ann 0 n s t=some (s',t')→topGo treeTable p w n₀ ann n s t=some (s',t')
 | 0,_,_,_,_,h=>h
 | n+1,s,s',t,t',h=>by
  unfold segGo at h
  unfold topGo
  have:through t=match endAt 0 t with | some _=>true | none=>false:=by
   unfold through endAt
   obtain ⟨cur,c,p,st⟩:=t
   cases st with
   | nil=>cases cur<;>try rfl
          rename_i f;cases f<;>rfl
   | cons f r=>rfl
  rw [this]
  cases he:endAt 0 t with
  | some x=>rw [he] at h;injection h
  | none =>
   rw [he] at h
   cases hk:stepOk n₀ ann t with
   | false=>rw [hk] at h;injection h
   | true =>
    rw [hk] at h
    cases hs:step (denote treeTable) p w s t with
    | halt o s₂=>rw [hs] at h;injection h
    | go s₂ t₂=>rw [hs] at h;exact p4 h
theorem mZ {n:Nat}{s s':SharedT}{t t':Thread}(h:segGoT treeTable p w n₀ ann 0 n s t=some (s',t')):topGo treeTable p w n₀ ann n s.abs t=some (s'.abs,t'):=p4 (segGo_of h)
set_option tactic.hygienic true in
theorem tK {m₀:Nat}{a b:Nat}{t:Thread}(l:n₀≤m₀) (l':n₀≤a) (h:stepOk m₀ (some (.ref a)) t=true):stepOk n₀ ann t=true:=by
 unfold stepOk at h ⊢
 rw [Bool.and_eq_true] at h ⊢
 refine ⟨h.1,?_⟩
 have h2:=h.2
 revert h2
 cases t.cur<;>intro h2<;>try exact h2
 rename_i a' _ _ _
 simp only [Bool.or_eq_true,Nat.ble_eq,beq_iff_eq,Option.some.injEq,Value.ref.injEq] at h2 ⊢
 rcases h2 with ((q | q) | q) | q
 ·exact .inl (.inl (.inl (aaf l q)))
 ·exact .inl (.inl (.inr q))
 ·exact .inl (.inr q)
 ·exact .inl (.inl (.inl (q▸l')))
theorem js {m₀:Nat}{a:Nat}(l:n₀≤m₀) (l':n₀≤a):∀ {n:Nat}{s s':Shared}{t t':Thread},topGo treeTable p w m₀ (some (.ref a)) n s t=some (s',t')→topGo treeTable p w n₀ ann n s t=some (s',t')
 | 0,_,_,_,_,h=>h
 | n+1,s,s',t,t',h=>by
  unfold topGo at h ⊢
  cases ht:through t with
  | true=>rw [ht] at h;injection h
  | false =>
   rw [ht] at h
   cases hk:stepOk m₀ (some (.ref a)) t with
   | false=>rw [hk] at h;injection h
   | true =>
    rw [hk] at h
    rw [tK (b:=0) l l' hk]
    cases hs:step (denote treeTable) p w s t with
    | halt o s₂=>rw [hs] at h;injection h
    | go s₂ t₂=>rw [hs] at h;exact js l l' h
set_option tactic.hygienic true in
theorem iQ {m₀:Nat}{a:Nat} : ∀ {n:Nat}{s s':Shared}{t t':Thread},topGo treeTable p w m₀ (some (.ref a)) n s t=some (s',t') →
 ∀ b o,b<m₀→b≠mainNs→b≠cStatics→b≠a→s.heap.get? b=some o→s'.heap.get? b=some o
 | 0,s,s',t,t',h,b,o,_,_,_,_,e=>by simp [topGo] at h;obtain ⟨rfl,rfl⟩:=h;exact e
 | n+1,s,s',t,t',h,b,o,h1,h2,h3,h4,e=>by
  unfold topGo at h
  cases ht:through t with
  | true=>rw [ht] at h;injection h
  | false =>
   rw [ht] at h
   cases hk:stepOk m₀ (some (.ref a)) t with
   | false=>rw [hk] at h;injection h
   | true =>
    rw [hk] at h
    cases hs:step (denote treeTable) p w s t with
    | halt o s₂=>rw [hs] at h;injection h
    | go s₂ t₂ =>
     rw [hs] at h
     refine iQ h b o h1 h2 h3 h4 ?_
     rw [PySem.step_heap (denote treeTable) p w s s₂ t t₂ hs]
     obtain ⟨_,hk⟩:=aac.mp hk
     revert hk
     cases t.cur<;>intro hk<;>try exact e
     case update a' _ f _ =>
      have:b≠a':=by
       rintro rfl
       simp only [Bool.or_eq_true,Nat.ble_eq,beq_iff_eq,Option.some.injEq,Value.ref.injEq] at hk
       rcases hk with ((q | q) | q) | q
       ·exact absurd h1 (Nat.not_lt.mpr q)
       ·exact h2 q
       ·exact h3 q
       ·exact h4 q.symm
      exact (Heap.get?_update_ne _ _ _ _ this).trans e
     case alloc x _=>exact Heap.get?_push_of_some x e
end
noncomputable abbrev dn (ps:List (Nat×Obj)) (r:SharedT×Thread):=(r.2,r.1.n,r.1.life,r.1.gens,r.1.drawn,r.1.toks,r.1.os,ps.map fun q=>r.1.tree.get q.1)
noncomputable abbrev fj (ps:List (Nat×Obj)) (t:Thread) (n:Nat) (life:Life) (gens:Array GenState) (drawn:Drawn) (tk:Nat) (os:OsState):=some (t,n,life,gens,drawn,tk,os,ps.map fun q=>some q.2)
theorem m3 {α β:Type}{f g:α→β} : ∀ {l:List α},l.map f=l.map g→∀ q∈l,f q=g q
 | x :: r,h,q,hq=>by
  rw [List.map_cons,List.map_cons,List.cons.injEq] at h
  rcases List.mem_cons.mp hq with rfl | m
  ·exact h.1
  ·exact m3 h.2 q m
theorem xN {p:Program}{w:World}{os os':OsState}{life life':Life}{gens gens':Array GenState}{drawn drawn':Drawn}{tk tk' n n' N n₁ a:Nat}{H:Heap}{L ps:List (Nat×Obj)}{t t':Thread}{β:Type}{G:SharedT×Thread→β}{g:β}
 (hs:H.objs.size=n) (hl:H.life=life) (hn:n≤4000) (hL:∀ q∈L,H.get? q.1=some q.2)
 (k:(segGoT treeTable p w n₁ (some (.ref a)) 0 N ⟨cV (ov (atO H) L) n,n,life,gens,drawn,tk,os⟩ t).map (fun r=>(dn ps r,G r))=(fj ps t' n' life' gens' drawn' tk' os').map (·,g)) :
 ∃ T,topGo treeTable p w n₁ (some (.ref a)) N ⟨H,gens,drawn,tk,os⟩ t=some (⟨absHeap T n' life',gens',drawn',tk',os'⟩,t')∧(∀ q∈ps,T.get q.1=some q.2)∧G (⟨T,n',life',gens',drawn',tk',os'⟩,t')=g:=by
 have e:ov (atO H) L=atO H:=funext fun i=>uM fun q hq=>d7 (hL q hq)
 rw [e] at k
 obtain ⟨⟨⟨T,m,lf,gs,dr,tt,oo⟩,th⟩,h1,h2⟩:=Option.map_eq_some_iff.mp k
 simp only [dn,Prod.mk.injEq] at h2
 obtain ⟨⟨rfl,rfl,rfl,rfl,rfl,rfl,rfl,h3⟩,h4⟩:=h2
 have g:=mZ h1
 subst hs hl
 have ea:SharedT.abs ⟨cV (atO H) H.objs.size,H.objs.size,H.life,gens,drawn,tk,os⟩=⟨H,gens,drawn,tk,os⟩:=by
  show Shared.mk _ _ _ _ _=_
  rw [hJ hn]
 rw [ea] at g
 exact ⟨T,g,fun q hq=>m3 h3 q hq,h4⟩
theorem FI {p:Program}{w:World}{os os':OsState}{life life':Life}{gens gens':Array GenState}{drawn drawn':Drawn}{tk tk' n n' N n₁ a:Nat}{H:Heap}{L ps:List (Nat×Obj)}{t t':Thread}
 (hs:H.objs.size=n) (hl:H.life=life) (hn:n≤4000) (hL:∀ q∈L,H.get? q.1=some q.2)
 (k:(segGoT treeTable p w n₁ (some (.ref a)) 0 N ⟨cV (ov (atO H) L) n,n,life,gens,drawn,tk,os⟩ t).map (dn ps)=fj ps t' n' life' gens' drawn' tk' os') :
 ∃ H',topGo treeTable p w n₁ (some (.ref a)) N ⟨H,gens,drawn,tk,os⟩ t=some (⟨H',gens',drawn',tk',os'⟩,t')∧H'.objs.size=n'∧H'.life=life'∧∀ q∈ps,q.1<n'→H'.get? q.1=alive q.2:=by
 have k':(segGoT treeTable p w n₁ (some (.ref a)) 0 N ⟨cV (ov (atO H) L) n,n,life,gens,drawn,tk,os⟩ t).map (fun r=>(dn ps r,()))=(fj ps t' n' life' gens' drawn' tk' os').map (·,()):=by
  rw [← k,Option.map_map];rfl
 obtain ⟨T,g,h,_⟩:=xN hs hl hn hL k'
 exact ⟨_,g,absHeap_size _ _ _,rfl,fun q hq lt=>abs_get lt (h q hq)⟩
inductive V where
 | none
 | bool (b:Bool)
 | int (i:Int)
 | str (s:List Nat)
 | obj (k:Nat)
 | list (xs:List V)
 | tup (xs:List V)
 | sset (xs:List (List Nat))
 | g (v:Value)
 | rng (a b c:Int)
noncomputable abbrev ah:=List (Nat×V)
inductive Ob where
 | inst (c:Addr) (fs:ah)
noncomputable abbrev St:=List Ob
structure Phi where
 objs:List (Addr×Addr)
 bad:List Addr
noncomputable def au (φ:Phi):List Addr:=φ.objs.map (·.2)++φ.bad
noncomputable def big:Nat:=1048576
noncomputable def txt (l:List Nat):Str:=⟨l.toArray⟩
noncomputable def fo (l:List Nat):Prop:=l.length≤big∧∀ c∈l,c<0x110000
noncomputable def dR (W:World) (o:Obj) (S:Str→Bool) (n:Nat):Prop:=∀ prog:Program,o.SetObjOf (strKind prog W) S n
noncomputable def eB (xs:List (List Nat)) (k:Str):Bool:=decide (k.cps.toList∈xs)
mutual
noncomputable def Rep (W:World) (φ:Phi) (h:Heap):V→Value→Prop
 | .none,v=>v = .none
 | .bool b,v=>v = .bool b
 | .int i,v=>∃ t,v = .int i t
 | .str s,v=>fo s∧∃ t,v = .str (txt s) t
 | .obj k,v=>∃ p,φ.objs[k]? = some p∧v = .ref p.1
 | .list xs,v=>xs.length≤big∧∃ a vs n,v = .ref a∧a∉au φ∧h.get? a=some ⟨.type "list",none,.seq (List.toArray vs) n,#[]⟩∧Reps W φ h xs vs
 | .tup xs,v=>xs.length≤big∧∃ a vs n,v = .ref a∧a∉au φ∧h.get? a=some ⟨.type "tuple",none,.seq (List.toArray vs) n,#[]⟩∧Reps W φ h xs vs
 | .sset xs,v=>∃ a o n,v = .ref a∧a∉au φ∧h.get? a=some o∧dR W o (eB xs) n∧n<4096
 | .g w,v=>v=w
 | .rng a b c,v=>∃ r x y z,v = .ref r∧r∉au φ∧h.get? r=some ⟨.type "range",none,.fields #[.int a x,.int b y,.int c z],#[]⟩
noncomputable def Reps (W:World) (φ:Phi) (h:Heap):List V→List Value→Prop
 | [],vs=>vs=[]
 | x :: xs,vs=>∃ v r,vs=v :: r∧Rep W φ h x v∧Reps W φ h xs r
end
section
variable {W:World}{φ:Phi}{h:Heap}{v:Value}{vs:List Value}
theorem eY:Rep W φ h .none v=(v = .none):=rfl
theorem dG {b:Bool} : Rep W φ h (.bool b) v=(v = .bool b):=rfl
theorem cW {i:Int} : Rep W φ h (.int i) v=∃ t,v = .int i t:=rfl
theorem dB {s:List Nat} : Rep W φ h (.str s) v=(fo s∧∃ t,v = .str (txt s) t):=rfl
theorem hS {k:Nat} : Rep W φ h (.obj k) v=∃ p,φ.objs[k]? = some p∧v = .ref p.1:=rfl
theorem cX {xs:List V} : Rep W φ h (.list xs) v=(xs.length≤big∧∃ a vs n,v = .ref a∧a∉au φ∧h.get? a=some ⟨.type "list",none,.seq (List.toArray vs) n,#[]⟩∧Reps W φ h xs vs):=rfl
theorem hV {xs:List V} : Rep W φ h (.tup xs) v=(xs.length≤big∧∃ a vs n,v = .ref a∧a∉au φ∧h.get? a=some ⟨.type "tuple",none,.seq (List.toArray vs) n,#[]⟩∧Reps W φ h xs vs):=rfl
theorem kM {xs:List (List Nat)} : Rep W φ h (.sset xs) v=∃ a o n,v = .ref a∧a∉au φ∧h.get? a=some o∧dR W o (eB xs) n∧n<4096:=rfl
theorem vX {w:Value} : Rep W φ h (.g w) v=(v=w):=rfl
theorem m4 {a b c:Int} : Rep W φ h (.rng a b c) v=∃ r x y z,v = .ref r∧r∉au φ∧h.get? r=some ⟨.type "range",none,.fields #[.int a x,.int b y,.int c z],#[]⟩:=rfl
theorem aN:Reps W φ h [] vs=(vs=[]):=rfl
theorem aB {x:V}{xs:List V} : Reps W φ h (x :: xs) vs=∃ v r,vs=v :: r∧Rep W φ h x v∧Reps W φ h xs r:=rfl
end
noncomputable def dO (o:Obj):Prop:=∃ es n,o.data = .dict es n
noncomputable def d8 (o o':Obj):Prop:=o'=o∨dO o∧∃ sl,o' = { o with slots:=sl}
theorem d8.refl (o:Obj):d8 o o:=.inl rfl
theorem d8.trans {a b c:Obj}(x:d8 a b) (y:d8 b c):d8 a c:=by
 rcases x with rfl | ⟨d,sl,rfl⟩
 ·exact y
 ·rcases y with rfl | ⟨_,sl',rfl⟩
  ·exact .inr ⟨d,sl,rfl⟩
  ·exact .inr ⟨d,sl',rfl⟩
theorem d8.eq {o o':Obj}(x:d8 o o') (n:¬ dO o):o'=o:=x.elim id fun y=>absurd y.1 n
noncomputable def bS (φ:Phi) (own:List Addr) (h h':Heap):Prop:=∀ b o,h.get? b=some o→b∉au φ→b∉own→∃ o',h'.get? b=some o'∧d8 o o'
theorem bS.same {φ:Phi}{own:List Addr}{h h':Heap}(k:bS φ own h h') {b:Addr}{o:Obj}(e:h.get? b=some o) (m:b∉au φ) (n:b∉own) (nd:¬ dO o):h'.get? b=some o:=by
 obtain ⟨o',e',a⟩:=k b o e m n
 rw [e',a.eq nd]
noncomputable def bM (φ:Phi) (h:Heap) (φ':Phi):Prop:=∃ ψ β,φ'.objs=φ.objs++ψ∧φ'.bad=φ.bad++β∧(∀ p∈ψ,h.get? p.2=none)∧∀ b∈β,h.get? b=none
noncomputable def Ext (h h':Heap):Prop:=∀ b o,h.get? b=some o→h'.get? b=some o
theorem Ext.refl (h:Heap):Ext h h:=fun zz zz e=>e
theorem Ext.trans {a b c:Heap}(x:Ext a b) (y:Ext b c):Ext a c:=fun zz zz e=>y _ _ (x _ _ e)
theorem Ext.keep {φ:Phi}{own:List Addr}{h h':Heap}(x:Ext h h'):bS φ own h h':=fun zz zz e zz zz=>⟨_,x _ _ e,.refl _⟩
theorem bM.refl (φ:Phi) (h:Heap):bM φ h φ:=⟨[],[],(List.append_nil _).symm,(List.append_nil _).symm,(fun zz hp=>nomatch hp),fun zz hp=>nomatch hp⟩
theorem bM.mem {φ φ':Phi}{h:Heap}(x:bM φ h φ') {b:Addr}(n:b∈au φ):b∈au φ':=by
 obtain ⟨ψ,β,e1,e2,_,_⟩:=x
 unfold au at n ⊢
 rw [e1,e2,List.map_append]
 rcases List.mem_append.mp n with n | n
 ·exact List.mem_append_left _ (List.mem_append_left _ n)
 ·exact aao _ (List.mem_append_left _ n)
theorem bM.back {φ φ':Phi}{h:Heap}(x:bM φ h φ') {b:Addr}(n:b∈au φ'):b∈au φ∨h.get? b=none:=by
 obtain ⟨ψ,β,e1,e2,hψ,hβ⟩:=x
 unfold au at n ⊢
 rw [e1,e2,List.map_append] at n
 rcases List.mem_append.mp n with n | n<;>rcases List.mem_append.mp n with n | n
 ·exact .inl (List.mem_append_left _ n)
 ·obtain ⟨p,hp,rfl⟩:=List.mem_map.mp n;exact .inr (hψ p hp)
 ·exact .inl (aao _ n)
 ·exact .inr (hβ _ n)
theorem bM.notmem {φ φ':Phi}{h:Heap}(x:bM φ h φ') {b:Addr}{o:Obj}(e:h.get? b=some o) (n:b∉au φ):b∉au φ':=fun m=>by
 rcases x.back m with m | m
 ·exact n m
 ·rw [m] at e;injection e
theorem bM.at {φ φ':Phi}{h:Heap}(x:bM φ h φ') {k:Nat}{p:Addr×Addr}(e:φ.objs[k]? = some p):φ'.objs[k]? = some p:=by
 obtain ⟨ψ,β,e1,_⟩:=x
 have:k<φ.objs.length:=by
  rcases Nat.lt_or_ge k φ.objs.length with h | h
  ·exact h
  ·rw [List.getElem?_eq_none h] at e;injection e
 rw [e1,List.getElem?_append_left this];exact e
theorem bM.trans {a b c:Phi}{h h':Heap}{own:List Addr}(x:bM a h b) (k:bS a own h h') (ho:∀ o∈own,o∉au c) (y:bM b h' c) (hm:∀ m∈au a,(h'.get? m).isSome):bM a h c:=by
 have back:∀ m,m∈au c→h'.get? m=none→h.get? m=none:=fun m mc e'=>by
  cases e:h.get? m with
  | none=>rfl
  | some o =>
   by_cases q:m∈au a
   ·have:=hm _ q;rw [e'] at this;injection this
   ·obtain ⟨_,w,_⟩:=k _ _ e q fun z=>ho _ z mc
    rw [e'] at w;injection w
 obtain ⟨ψ,β,e1,e2,hψ,hβ⟩:=x
 obtain ⟨ψ',β',f1,f2,hψ',hβ'⟩:=y
 refine ⟨ψ++ψ',β++β',by rw [f1,e1,aap],by rw [f2,e2,aap],fun p hp=>?_,fun p hp=>?_⟩
 ·rcases List.mem_append.mp hp with hp | hp
  ·exact hψ p hp
  ·refine back _ ?_ (hψ' p hp)
   unfold au;rw [f1]
   exact List.mem_append_left _ (List.mem_map_of_mem (aao _ hp))
 ·rcases List.mem_append.mp hp with hp | hp
  ·exact hβ p hp
  ·refine back _ ?_ (hβ' p hp)
   unfold au;rw [f2]
   exact aao _ (aao _ hp)
noncomputable def gH (o:Obj):Prop:=(∃ es n,o.data = .dict es n)∨(∃ v,o.data = .cell v)∨∃ vs,o.data = .fields vs∧o.cls≠.type "range"
noncomputable def Own (h:Heap) (own:List Addr):Prop:=∀ b∈own,∃ o,h.get? b=some o∧gH o
theorem Own.nil (h:Heap):Own h []:=fun zz m=>absurd m List.not_mem_nil
theorem Own.ne {h:Heap}{own:List Addr}(O:Own h own) {a:Addr}{o:Obj}(e:h.get? a=some o) (n:¬ gH o):a∉own:=fun m=>by
 obtain ⟨o',e',q⟩:=O a m
 rw [e] at e';obtain rfl:=aaa e'
 exact n q
theorem Own.nd {o:Obj}(n:¬ gH o):¬ dO o:=fun z=>n (.inl z)
theorem gf {c:Value}{d:Option Addr}{xs:Array Value}{n:Nat}{sl} : ¬ gH ⟨c,d,.seq xs n,sl⟩:=fun q=>by
 rcases q with ⟨_,_,q⟩ | ⟨_,q⟩ | ⟨_,q,_⟩<;>injection q
theorem p5 {o:Obj}{es n t}(hd:o.data = .set es n t):¬ gH o:=fun q=>by
 rcases q with ⟨_,_,q⟩ | ⟨_,q⟩ | ⟨_,q,_⟩<;>(rw [hd] at q;injection q)
theorem lN {d:Option Addr}{xs:Array Value}{sl} : ¬ gH ⟨.type "range",d,.fields xs,sl⟩:=fun q=>by
 rcases q with ⟨_,_,q⟩ | ⟨_,q⟩ | ⟨_,_,q⟩
 ·injection q
 ·injection q
 ·exact q rfl
theorem tL {c:Value}{d:Option Addr}{sl} : ¬ gH ⟨c,d,.plain,sl⟩:=fun q=>by
 rcases q with ⟨_,_,q⟩ | ⟨_,q⟩ | ⟨_,q,_⟩<;>injection q
mutual
theorem Rep.mono {W:World}{φ φ':Phi}{h h':Heap}{own:List Addr}(G:bM φ h φ') (K:bS φ own h h') (O:Own h own):∀ {x:V}{v:Value},Rep W φ h x v→Rep W φ' h' x v
 | .none,_,r=>by rw [eY] at r ⊢;exact r
 | .bool _,_,r=>by rw [dG] at r ⊢;exact r
 | .int _,_,r=>by rw [cW] at r ⊢;exact r
 | .str _,_,r=>by rw [dB] at r ⊢;exact r
 | .obj _,_,r=>by
  rw [hS] at r ⊢
  obtain ⟨p,a,b⟩:=r
  exact ⟨p,G.at a,b⟩
 | .list xs,_,r=>by
  rw [cX] at r ⊢
  obtain ⟨l,a,vs,n,e,m,ho,q⟩:=r
  exact ⟨l,a,vs,n,e,G.notmem ho m,K.same ho m (O.ne ho gf) (Own.nd gf),Reps.mono G K O q⟩
 | .tup xs,_,r=>by
  rw [hV] at r ⊢
  obtain ⟨l,a,vs,n,e,m,ho,q⟩:=r
  exact ⟨l,a,vs,n,e,G.notmem ho m,K.same ho m (O.ne ho gf) (Own.nd gf),Reps.mono G K O q⟩
 | .sset xs,_,r=>by
  rw [kM] at r ⊢
  obtain ⟨a,o,n,e,m,ho,q,q'⟩:=r
  obtain ⟨_,es,ep,t,hd,_⟩:=q default
  exact ⟨a,o,n,e,G.notmem ho m,K.same ho m (O.ne ho (p5 hd)) (Own.nd (p5 hd)),q,q'⟩
 | .g _,_,r=>by rw [vX] at r ⊢;exact r
 | .rng _ _ _,_,r=>by
  rw [m4] at r ⊢
  obtain ⟨a,x,y,z,e,m,ho⟩:=r
  exact ⟨a,x,y,z,e,G.notmem ho m,K.same ho m (O.ne ho lN) (Own.nd lN)⟩
theorem Reps.mono {W:World}{φ φ':Phi}{h h':Heap}{own:List Addr}(G:bM φ h φ') (K:bS φ own h h') (O:Own h own):∀ {xs:List V}{vs:List Value},Reps W φ h xs vs→Reps W φ' h' xs vs
 | [],_,r=>by rw [aN] at r ⊢;exact r
 | _ :: _,_,r=>by
  rw [aB] at r ⊢
  obtain ⟨v,q,e,a,b⟩:=r
  exact ⟨v,q,e,Rep.mono G K O a,Reps.mono G K O b⟩
end
theorem Rep.ext {W:World}{φ:Phi}{h h':Heap}(x:Ext h h') {v:V}{u:Value}(r:Rep W φ h v u):Rep W φ h' v u:=r.mono (.refl _ _) (x.keep (own:=[])) (.nil _)
theorem Reps.ext {W:World}{φ:Phi}{h h':Heap}(x:Ext h h') {v:List V}{u:List Value}(r:Reps W φ h v u):Reps W φ h' v u:=r.mono (.refl _ _) (x.keep (own:=[])) (.nil _)
theorem Reps.len {W:World}{φ:Phi}{h:Heap} : ∀ {xs:List V}{vs:List Value},Reps W φ h xs vs→vs.length=xs.length
 | [],_,r=>by rw [aN] at r;subst r;rfl
 | _ :: _,_,r=>by
  rw [aB] at r
  obtain ⟨v,q,rfl,_,b⟩:=r
  simp [Reps.len b]
theorem Reps.app {W:World}{φ:Phi}{h:Heap} : ∀ {xs ys:List V}{vs ws:List Value},Reps W φ h xs vs→Reps W φ h ys ws→Reps W φ h (xs++ys) (vs++ws)
 | [],_,_,_,r,q=>by rw [aN] at r;subst r;exact q
 | _ :: _,_,_,_,r,q=>by
  rw [aB] at r
  obtain ⟨v,k,rfl,a,b⟩:=r
  show Reps _ _ _ (_ :: (_++_)) (_ :: (_++_))
  rw [aB]
  exact ⟨_,_,rfl,a,Reps.app b q⟩
theorem Reps.get {W:World}{φ:Phi}{h:Heap} : ∀ {xs:List V}{vs:List Value},Reps W φ h xs vs→∀ {i:Nat}{x:V},xs[i]? = some x→∃ v,vs[i]? = some v∧Rep W φ h x v
 | [],_,_,_,_,e=>by injection e
 | _ :: _,_,r,i,x,e=>by
  rw [aB] at r
  obtain ⟨v,k,rfl,a,b⟩:=r
  cases i with
  | zero=>simp at e;subst e;exact ⟨v,rfl,a⟩
  | succ i=>simp at e;simpa using Reps.get b e
theorem Reps.drop {W:World}{φ:Phi}{h:Heap} : ∀ {xs:List V}{vs:List Value}(n:Nat),Reps W φ h xs vs→Reps W φ h (xs.drop n) (vs.drop n)
 | _,_,0,r=>r
 | [],_,_+1,r=>by rw [aN] at r;subst r;simp [aN]
 | _ :: _,_,n+1,r=>by
  rw [aB] at r
  obtain ⟨v,k,rfl,a,b⟩:=r
  exact Reps.drop n b
theorem Reps.take {W:World}{φ:Phi}{h:Heap} : ∀ {xs:List V}{vs:List Value}(n:Nat),Reps W φ h xs vs→Reps W φ h (xs.take n) (vs.take n)
 | _,_,0,_=>by simp [aN]
 | [],_,_+1,r=>by rw [aN] at r;subst r;simp [aN]
 | _ :: _,_,n+1,r=>by
  rw [aB] at r
  obtain ⟨v,k,rfl,a,b⟩:=r
  simp only [List.take_succ_cons]
  rw [aB]
  exact ⟨_,_,rfl,a,Reps.take n b⟩
noncomputable def Phi.ban (φ:Phi) (B:List Addr):Phi:=⟨φ.objs,φ.bad++B⟩
theorem bM.ban (φ:Phi) {h:Heap}{B:List Addr}(hb:∀ b∈B,h.get? b=none):bM φ h (φ.ban B):=⟨[],B,(List.append_nil _).symm,rfl,(fun zz hp=>nomatch hp),hb⟩
theorem eP {φ:Phi}{B:List Addr}{b:Addr} : b∈au (φ.ban B)↔b∈au φ∨b∈B:=by
 unfold au Phi.ban;simp only [List.mem_append,or_assoc]
mutual
theorem Rep.unban {W:World}{φ:Phi}{h:Heap}{B:List Addr} : ∀ {x:V}{v:Value},Rep W (φ.ban B) h x v→Rep W φ h x v
 | .none,_,r=>by rw [eY] at r ⊢;exact r
 | .bool _,_,r=>by rw [dG] at r ⊢;exact r
 | .int _,_,r=>by rw [cW] at r ⊢;exact r
 | .str _,_,r=>by rw [dB] at r ⊢;exact r
 | .obj _,_,r=>by rw [hS] at r ⊢;exact r
 | .list xs,_,r=>by
  rw [cX] at r ⊢
  obtain ⟨l,a,vs,n,e,m,ho,q⟩:=r
  exact ⟨l,a,vs,n,e,fun z=>m (eP.mpr (.inl z)),ho,Reps.unban q⟩
 | .tup xs,_,r=>by
  rw [hV] at r ⊢
  obtain ⟨l,a,vs,n,e,m,ho,q⟩:=r
  exact ⟨l,a,vs,n,e,fun z=>m (eP.mpr (.inl z)),ho,Reps.unban q⟩
 | .sset xs,_,r=>by
  rw [kM] at r ⊢
  obtain ⟨a,o,n,e,m,q⟩:=r
  exact ⟨a,o,n,e,fun z=>m (eP.mpr (.inl z)),q⟩
 | .g _,_,r=>by rw [vX] at r ⊢;exact r
 | .rng _ _ _,_,r=>by
  rw [m4] at r ⊢
  obtain ⟨a,x,y,z,e,m,ho⟩:=r
  exact ⟨a,x,y,z,e,fun t=>m (eP.mpr (.inl t)),ho⟩
theorem Reps.unban {W:World}{φ:Phi}{h:Heap}{B:List Addr} : ∀ {xs:List V}{vs:List Value},Reps W (φ.ban B) h xs vs→Reps W φ h xs vs
 | [],_,r=>by rw [aN] at r ⊢;exact r
 | _ :: _,_,r=>by
  rw [aB] at r ⊢
  obtain ⟨v,q,e,a,b⟩:=r
  exact ⟨v,q,e,Rep.unban a,Reps.unban b⟩
end
inductive Bop where | add | sub | fdiv | mod | shr
noncomputable def Bop.py:Bop→Operator
 | .add=>.Add | .sub=>.Sub | .fdiv=>.FloorDiv | .mod=>.Mod | .shr=>.RShift
theorem bH {α:Type}{r:α}{C:Prop}(e:none=some r):C:=(by injection e)
noncomputable def jt {α:Type}(a:V) (k:Int→Option α):Option α:=match a with
 | .int x=>k x
 | _=>none
noncomputable def asS {α:Type}(a:V) (k:List Nat→Option α):Option α:=match a with
 | .str l=>k l
 | _=>none
noncomputable def asL {α:Type}(a:V) (k:List V→Option α):Option α:=match a with
 | .list l=>k l
 | _=>none
theorem fN {α:Type}{a:V}{k:Int→Option α}{r:α}{m:V→Prop}(e:jt a k=some r) (kk:∀ x,k x=some r→m (.int x)):m a:=by
 cases a with
 | int x=>exact kk x e
 | _=>exact bH e
theorem cY {α:Type}{a:V}{k:List Nat→Option α}{r:α}{m:V→Prop}(e:asS a k=some r) (kk:∀ x,k x=some r→m (.str x)):m a:=by
 cases a with
 | str x=>exact kk x e
 | _=>exact bH e
theorem m6 {α:Type}{a:V}{k:List V→Option α}{r:α}{m:V→Prop}(e:asL a k=some r) (kk:∀ x,k x=some r→m (.list x)):m a:=by
 cases a with
 | list x=>exact kk x e
 | _=>exact bH e
noncomputable def eQ {α:Type}(a b:V) (k:Int→Int→Option α):Option α:=jt a fun x=>jt b fun y=>k x y
theorem eZ {α:Type}{a b:V}{k:Int→Int→Option α}{r:α}(e:eQ a b k=some r):∃ x y,a = .int x∧b = .int y∧k x y=some r :=
 fN (m:=fun a=>∃ x y,a = .int x∧b = .int y∧k x y=some r) e fun x e=>fN (m:=fun b=>∃ x' y,V.int x = .int x'∧b = .int y∧k x' y=some r) e fun y e=>⟨x,y,rfl,rfl,e⟩
noncomputable def zu (a b:V):Option V:=match a with
 | .int x=>jt b fun y=>some (.int (x+y))
 | .str x=>asS b fun y=>if x.length+y.length≤big then some (.str (x++y)) else none
 | .list x=>asL b fun y=>if x.length+y.length≤big then some (.list (x++y)) else none
 | _=>none
noncomputable def DA (o:Bop) (a b:V):Option V:=match o with
 | .add=>zu a b
 | .sub=>eQ a b fun x y=>some (.int (x - y))
 | .fdiv=>eQ a b fun x y=>if 0<y∧y<1073741824 then some (.int (x.fdiv y)) else none
 | .mod=>eQ a b fun x y=>if 0<y then some (.int (x.fmod y)) else none
 | .shr=>eQ a b fun x y=>if 0≤y then some (.int (x.fdiv (2 ^ y.toNat))) else none
theorem bA (l:List Nat):(txt l).length=l.length:=by simp [txt,Str.length]
theorem hY:big≤sizeLine:=by rw [sizeLine_eq];unfold big;exact Nat.le_add_left _ _
theorem BV (a b:List Nat):txt a++txt b=txt (a++b):=by
 apply Str.ext'
 show ((txt a).cps++(txt b).cps)=_
 simp [txt]
section
variable {prog:Program}{w:World}{A:Around}{E:Value→Shared→Prop}{s:Shared}{φ:Phi}{Q:Value→Shared→Prop}
noncomputable abbrev bh (w:World) (φ:Phi) (s:Shared) (r:V) (Q:Value→Shared→Prop):Prop:=∀ v' h' k,Ext s.heap h'→Rep w φ h' r v'→Q v' { s with heap:=h',toks:=k}
theorem bh.same {r:V}{v:Value}(h:bh w φ s r Q) (e:Rep w φ s.heap r v):Q v s:=h v s.heap s.toks (.refl _) e
theorem bh.tok {r:V}{v:Value}{k:Nat}(h:bh w φ s r Q) (e:Rep w φ s.heap r v):Q v { s with toks:=k}:=h v s.heap k (.refl _) e
theorem Ext.push (h:Heap) (o:Obj):Ext h (h.push o):=fun zz zz e=>Heap.get?_push_of_some _ e
theorem f0 {h:Heap}(hm:∀ m∈au φ,(h.get? m).isSome):h.objs.size∉au φ:=fun q=>by
 obtain ⟨o,ho⟩:=Option.isSome_iff_exists.mp (hm _ q)
 exact absurd (Heap.lt_size ho) (Nat.lt_irrefl _)
theorem bR {h:Heap}(a:Int) (t:Tok):Rep w φ h (.int a) (.int a t):=by rw [cW];exact ⟨_,rfl⟩
theorem cI {h:Heap}{l:List Nat}(ok:fo l) (t:Tok):Rep w φ h (.str l) (.str (txt l) t):=by rw [dB];exact ⟨ok,_,rfl⟩
theorem xO {h:Heap}(b:Bool):Rep w φ h (.bool b) (.bool b):=by rw [dG]
theorem bN {h:Heap}{a:Int}{v:Value}{m:Value→Prop}(r:Rep w φ h (.int a) v) (k:∀ t,m (.int a t)):m v:=by
 rw [cW] at r;obtain ⟨t,rfl⟩:=r;exact k t
theorem cv {h:Heap}{l:List Nat}{v:Value}{m:Value→Prop}(r:Rep w φ h (.str l) v) (k:∀ t,fo l→m (.str (txt l) t)):m v:=by
 rw [dB] at r;obtain ⟨ok,t,rfl⟩:=r;exact k t ok
theorem dH {h:Heap}{xs:List V}{v:Value}{m:Value→Prop}(r:Rep w φ h (.list xs) v) (k:∀ a vs n,xs.length≤big→a∉au φ→h.get? a=some ⟨.type "list",none,.seq (List.toArray vs) n,#[]⟩→Reps w φ h xs vs→m (.ref a)):m v:=by
 rw [cX] at r;obtain ⟨hl,a,vs,n,rfl,nm,ho,q⟩:=r;exact k a vs n hl nm ho q
theorem gg {h:Heap}{a b r:V}{va vb:Value}{k:Int→Int→Option V}{m:Value→Value→Prop}(e:eQ a b k=some r) (ra:Rep w φ h a va) (rb:Rep w φ h b vb) (kk:∀ x y t u,k x y=some r→m (.int x t) (.int y u)):m va vb:=by
 obtain ⟨x,y,rfl,rfl,e⟩:=eZ e
 exact bN (m:=fun va=>m va vb) ra fun t=>bN (m:=fun vb=>m (.int x t) vb) rb fun u=>kk x y t u e
theorem dS {α:Type}{c:Prop}{_:Decidable c}{v r:α}{C:Prop}(e:(if c then some v else none)=some r) (k:c→v=r→C):C:=by
 by_cases q:c
 ·rw [if_pos q] at e;exact k q (aaa e)
 ·rw [if_neg q] at e;injection e
theorem vY {a b:List Nat}{r:V}{va vb:Value}(e:zu (.str a) (.str b)=some r) (ra:Rep w φ s.heap (.str a) va) (rb:Rep w φ s.heap (.str b) vb) (h:bh w φ s r Q):wpAny (model prog w) A (binaryOp .Add va vb) Q E s :=
 dS e fun q e=>cv (m:=fun va=>wpAny _ A (binaryOp _ va vb) Q E s) ra fun t ta=>cv (m:=fun vb=>wpAny _ A (binaryOp _ (.str (txt a) t) vb) Q E s) rb fun u tb=>by
  refine add_str (fun t' tk=>?_) (by rw [bA,bA];exact aaf q hY)
  rw [BV]
  exact h.tok (e▸cI ⟨by rw [List.length_append];exact q,fun c hc=>(List.mem_append.mp hc).elim (ta.2 c) (tb.2 c)⟩ _)
theorem tM {a b:List V}{r:V}{va vb:Value}(hm:∀ m∈au φ,(s.heap.get? m).isSome) (e:zu (.list a) (.list b)=some r) (ra:Rep w φ s.heap (.list a) va) (rb:Rep w φ s.heap (.list b) vb) (h:bh w φ s r Q):wpAny (model prog w) A (binaryOp .Add va vb) Q E s :=
 dS e fun q e=>dH (m:=fun va=>wpAny _ A (binaryOp _ va vb) Q E s) ra fun x vs n zz zz ho ra=>dH (m:=fun vb=>wpAny _ A (binaryOp _ (.ref x) vb) Q E s) rb fun y us n' zz zz ho' rb=>by
  refine P.add_list ho ho' (h _ _ _ (Ext.push _ _) ?_) (by simp only [List.size_toArray];rw [ra.len,rb.len];exact aaf q hY)
  rw [← e,cX]
  refine ⟨by rw [List.length_append];exact q,_,vs++us,0,rfl,f0 hm,?_,(Reps.app ra rb).ext (Ext.push _ _)⟩
  rw [Heap.get?_push_size _ rfl,List.append_toArray]
theorem DB (o:Bop) {a b r:V}{va vb:Value}(hm:∀ m∈au φ,(s.heap.get? m).isSome) (e:DA o a b=some r) (ra:Rep w φ s.heap a va) (rb:Rep w φ s.heap b vb) (h:bh w φ s r Q) :
 wpAny (model prog w) A (binaryOp o.py va vb) Q E s:=by
 cases o with
 | sub=>exact gg (m:=fun va vb=>wpAny _ A (binaryOp _ va vb) Q E s) e ra rb fun x y t u e=>P.sub_int (h.tok (aaa e▸bR _ _))
 | fdiv=>exact gg (m:=fun va vb=>wpAny _ A (binaryOp _ va vb) Q E s) e ra rb fun x y t u e=>dS e fun q e=>floordiv_int (Int.ne_of_gt q.1) (h.tok (e▸bR _ _)) (.inl (PyProof.noPylong_small (by omega)))
 | mod=>exact gg (m:=fun va vb=>wpAny _ A (binaryOp _ va vb) Q E s) e ra rb fun x y t u e=>dS e fun q e=>mod_int' (Int.ne_of_gt q) (h.tok (e▸bR _ _))
 | shr=>exact gg (m:=fun va vb=>wpAny _ A (binaryOp _ va vb) Q E s) e ra rb fun x y t u e=>dS e fun q e=>rshift_int q (h.tok (e▸bR _ _))
 | add =>
  cases a with
  | int a=>exact fN (m:=fun b=>Rep w φ s.heap b vb→wpAny _ A (binaryOp _ va vb) Q E s) e (fun b e rb=>bN (m:=fun va=>wpAny _ A (binaryOp _ va vb) Q E s) ra fun t=>bN (m:=fun vb=>wpAny _ A (binaryOp _ (.int a t) vb) Q E s) rb fun u=>P.add_int (h.tok (aaa e▸bR _ _))) rb
  | str a=>exact cY (m:=fun b=>Rep w φ s.heap b vb→wpAny _ A (binaryOp _ va vb) Q E s) e (fun b e rb=>vY e ra rb h) rb
  | list a=>exact m6 (m:=fun b=>Rep w φ s.heap b vb→wpAny _ A (binaryOp _ va vb) Q E s) e (fun b e rb=>tM hm e ra rb h) rb
  | _=>exact bH e
noncomputable def asB {α:Type}(a:V) (k:Bool→Option α):Option α:=match a with
 | .bool l=>k l
 | _=>none
theorem DC {α:Type}{a:V}{k:Bool→Option α}{r:α}{m:V→Prop}(e:asB a k=some r) (kk:∀ x,k x=some r→m (.bool x)):m a:=by
 cases a with
 | bool x=>exact kk x e
 | _=>exact bH e
noncomputable def bG:List V→Option (List (List Nat))
 | []=>some []
 | x :: r=>asS x fun l=>(bG r).map (l :: ·)
noncomputable def eqL (a b:V):Option Bool:=match a with
 | .bool x=>asB b fun y=>some (x==y)
 | .int x=>jt b fun y=>some (x==y)
 | .str x=>asS b fun y=>some (x==y)
 | .list xs=>asL b fun ys=>(bG xs).bind fun p=>(bG ys).map fun q=>p==q
 | _=>none
theorem uN {a b:List Nat}(h:txt a=txt b):a=b:=by
 have:=congrArg (fun x=>x.cps.toList) h
 simpa [txt] using this
theorem oZ (a b:List Nat):(txt a==txt b)=(a==b):=by
 rw [Bool.eq_iff_iff,beq_iff_eq,beq_iff_eq]
 exact ⟨uN,fun h=>by rw [h]⟩
noncomputable def eu (l:List Nat):PyData:=.str (txt l)
theorem ju {h:Heap}{l:List Nat}{v:Value}(r:Rep w φ h (.str l) v):(eu l).canLay0=true∧∃ as,Reads h v (eu l) as :=
 cv (m:=fun v=>(eu l).canLay0=true∧∃ as,Reads h v (eu l) as) r fun t ok=>by
  refine ⟨?_,_,.str _ _⟩
  show PyData.strOk (txt l)=true
  unfold PyData.strOk txt
  rw [List.all_toArray]
  exact aab.mpr fun c hc=>decide_eq_true (ok.2 c hc)
theorem iz {h:Heap} : ∀ {xs:List V}{L:List (List Nat)}{vs:List Value},bG xs=some L→Reps w φ h xs vs→PyData.canLayAll0 (L.map eu)=true∧∃ as,ReadsAll h vs (L.map eu) as
 | [],_,_,e,r=>by obtain rfl:=aaa e;rw [aN] at r;subst r;exact ⟨rfl,_,.nil⟩
 | x :: xs,L,_,e,r=>by
  rw [aB] at r
  obtain ⟨v,q,rfl,r1,r2⟩:=r
  refine cY (m:=fun x=>Rep w φ h x v→PyData.canLayAll0 (L.map eu)=true∧∃ as,ReadsAll h (v :: q) (L.map eu) as) e (fun l e r1=>?_) r1
  obtain ⟨M,e',rfl⟩:=Option.map_eq_some_iff.mp e
  obtain ⟨c1,a1,z1⟩:=ju r1
  obtain ⟨c2,a2,z2⟩:=iz e' r2
  exact ⟨aac.mpr ⟨c1,c2⟩,_,.cons z1 z2⟩
theorem re:∀ L M:List (List Nat),PyData.eqvAll (L.map eu) (M.map eu)=(L==M)
 | [],[]=>rfl
 | [],_ :: _=>rfl
 | _ :: _,[]=>rfl
 | a :: L,b :: M=>by
  show ((txt a==txt b)&&_)=((a==b)&&(L==M))
  rw [re L M,oZ]
theorem jv:∀ L:List (List Nat),PyData.depthAll (L.map eu)=0
 | []=>rfl
 | a :: L=>by show max 0 (PyData.depthAll (L.map eu))=0;rw [jv L];rfl
theorem rf (l:List Nat):∀ L:List (List Nat),((L.map eu).any fun y=>PyData.eqv y (eu l))=L.contains l
 | []=>rfl
 | a :: L=>by
  show ((txt a==txt l)||_)=_
  rw [rf l L,oZ,List.contains_cons,Bool.beq_comm]
inductive EqR (h:Heap) (va vb:Value) (r:Bool):Prop where
 | mk {da db:PyData}{as bs:List Addr}(r1:Reads h va da as) (r2:Reads h vb db bs) (c1:da.canLay0=true) (c2:db.canLay0=true) (e:PyData.eqv da db=r) (d:min da.depth db.depth≤1)
theorem uO {h:Heap}{a b:V}{r:Bool}{va vb:Value}(e:eqL a b=some r) (ra:Rep w φ h a va) (rb:Rep w φ h b vb):EqR h va vb r:=by
 cases a with
 | bool x=>exact DC (m:=fun b=>Rep w φ h b vb→EqR h va vb r) e (fun y e rb=>by rw [dG] at ra rb;rw [ra,rb];exact .mk (.bool _) (.bool _) rfl rfl (aaa e) (Nat.zero_le _)) rb
 | int x=>exact fN (m:=fun b=>Rep w φ h b vb→EqR h va vb r) e (fun y e rb=>bN (m:=fun va=>EqR h va vb r) ra fun t=>bN (m:=fun vb=>EqR h (.int x t) vb r) rb fun u=>.mk (.int _ _) (.int _ _) rfl rfl (aaa e) (Nat.zero_le _)) rb
 | str x=>exact cY (m:=fun b=>Rep w φ h b vb→EqR h va vb r) e (fun y e rb=>by
  obtain ⟨c1,_,r1⟩:=ju ra
  obtain ⟨c2,_,r2⟩:=ju rb
  exact .mk r1 r2 c1 c2 ((oZ x y).trans (aaa e)) (Nat.zero_le _)) rb
 | list xs=>exact m6 (m:=fun b=>Rep w φ h b vb→EqR h va vb r) e (fun ys e rb=>by
  obtain ⟨L,e1,e⟩:=Option.bind_eq_some_iff.mp e
  obtain ⟨M,e2,e⟩:=Option.map_eq_some_iff.mp e
  refine dH (m:=fun va=>EqR h va vb r) ra fun a vs n zz zz ho q=>dH (m:=fun vb=>EqR h (.ref a) vb r) rb fun b us n' zz zz ho' q'=>?_
  obtain ⟨c1,_,r1⟩:=iz e1 q
  obtain ⟨c2,_,r2⟩:=iz e2 q'
  exact .mk (.list ho rfl rfl r1) (.list ho' rfl rfl r2) c1 c2 ((re L M).trans e) (aaf (Nat.min_le_left _ _) (Nat.le_of_eq (congrArg (· + 1) (jv L))))) rb
 | _=>exact bH e
theorem FJ {a b:V}{r:Bool}{va vb:Value}(hu:A.units+2<cLine) (e:eqL a b=some r) (ra:Rep w φ s.heap a va) (rb:Rep w φ s.heap b vb) (h:Q (.bool r) s) :
 wpAny (model prog w) A (compareOp .Eq va vb) Q E s:=by
 obtain ⟨r1,r2,c1,c2,q,d⟩:=uO e ra rb
 exact SeqAt.compareEq_reads r1 r2 c1 c2 (by omega) (q.symm▸h)
theorem FK {a b:V}{r:Bool}{va vb:Value}(hu:A.units+2<cLine) (e:eqL a b=some r) (ra:Rep w φ s.heap a va) (rb:Rep w φ s.heap b vb) (h:Q (.bool (!r)) s) :
 wpAny (model prog w) A (compareOp .NotEq va vb) Q E s:=by
 obtain ⟨r1,r2,c1,c2,q,d⟩:=uO e ra rb
 exact SeqAt.compareNe_reads r1 r2 c1 c2 (by omega) (q.symm▸h)
end
noncomputable def cut {α:Type}(xs:List α) (lo hi:Option Int):List α :=
 (xs.drop (lo.elim 0 (clipAt xs.length))).take (hi.elim xs.length (clipAt xs.length) - lo.elim 0 (clipAt xs.length))
noncomputable def eR (o x:V):Option V:=match x with
 | .int i=>(match o with
  | .str l=>(seqIndex? i l.length).bind fun k=>(l[k]?).map fun c=>.str [c]
  | .list xs=>(seqIndex? i xs.length).bind fun k=>xs[k]?
  | .tup xs=>(seqIndex? i xs.length).bind fun k=>xs[k]?
  | _=>none)
 | _=>none
noncomputable def qD:V→Option (Option Int)
 | .none=>some none
 | .int i=>some (some i)
 | _=>none
noncomputable def xP (o:V) (lo hi:Option Int):Option V:=match o with
 | .str l=>some (.str (cut l lo hi))
 | .list xs=>some (.list (cut xs lo hi))
 | _=>none
theorem jT {α:Type}(xs:List α) (lo hi:Option Int):(cut xs lo hi).length≤xs.length:=by
 unfold cut
 rw [List.length_take,aal];exact aaf (Nat.min_le_right _ _) (Nat.sub_le _ _)
theorem BW {α:Type}{xs:List α}{lo hi:Option Int}{x:α}(h:x∈cut xs lo hi):x∈xs:=List.mem_of_mem_drop (List.mem_of_mem_take h)
theorem lO {i:Int}{n k:Nat}(e:seqIndex? i n=some k):(0≤(if i<0 then i+(n:Int) else i)∧(if i<0 then i+(n:Int) else i)<n)∧(if i<0 then i+(n:Int) else i).toNat=k :=
 dS e fun q e=>⟨⟨of_decide_eq_true (aac.mp q).1,of_decide_eq_true (aac.mp q).2⟩,e⟩
theorem iR {i:Int}{n k:Nat}(e:seqIndex? i n=some k):k<n∧-(n:Int)≤i∧i<n:=by
 obtain ⟨⟨a,b⟩,rfl⟩:=lO e
 clear e
 split at a<;>rename_i h
 ·rw [if_pos h] at b ⊢;exact ⟨(Int.toNat_lt a).mpr b,Int.le_of_sub_nonneg (show 0≤i - -(n:Int) by rw [Int.sub_neg];exact a),Int.lt_of_lt_of_le h (Int.natCast_nonneg n)⟩
 ·rw [if_neg h] at b ⊢;exact ⟨(Int.toNat_lt a).mpr b,Int.le_trans (Int.neg_nonpos_of_nonneg (Int.natCast_nonneg n)) a,b⟩
theorem BX {i:Int}(h1 : -(2 ^ 63:Int)≤i) (h2:i<2 ^ 63):(decide (i < -(2 ^ 63:Int))||decide (i≥2 ^ 63))=false:=by
 rw [decide_eq_false (by lia),decide_eq_false (by lia)];rfl
theorem xQ (l:List Nat) (lo hi:Option Int):Txt.slice (txt l) lo hi=txt (cut l lo hi):=by
 have key:Builtin.Str.strSliceIndices lo hi 1 (txt l).length=(List.range (hi.elim l.length (clipAt l.length) - lo.elim 0 (clipAt l.length))).map (lo.elim 0 (clipAt l.length) + ·):=by
  rw [bA]
  have:Builtin.Str.strSliceIndices lo hi 1 l.length=sliceRange ((lo.elim 0 (clipAt l.length):Nat):Int) ((hi.elim l.length (clipAt l.length):Nat):Int) 1:=by
   cases lo<;>cases hi<;>simp [Builtin.Str.strSliceIndices,clipAt_cast]
  rw [this,sliceRange_one]
 have full:((Builtin.Str.strSliceIndices lo hi 1 (txt l).length).filterMap ((txt l).cps[·]?))=cut l lo hi:=by
  rw [key,pick_run]
  simp [txt,cut]
 unfold Txt.slice
 split
 ·rename_i q
  simp only [beq_self_eq_true,Bool.true_and,beq_iff_eq] at q
  rw [key,List.length_map,List.length_range,bA] at q
  have hb:hi.elim l.length (clipAt l.length)≤l.length:=by
   cases hi with
   | none=>exact Nat.le_refl _
   | some i=>have:=clipAt_cast l.length i;simp only [Option.elim];omega
  have:cut l lo hi=l:=by
   unfold cut
   by_cases z:l=[]
   ·subst z;simp
   ·have:0<l.length:=List.length_pos_iff.mpr z
    have h0:lo.elim 0 (clipAt l.length)=0:=by omega
    rw [h0,List.drop_zero]
    exact List.take_of_length_le (by lia)
  rw [this]
 ·rw [full];rfl
section
variable {prog:Program}{w:World}{A:Around}{E:Value→Shared→Prop}{s:Shared}{φ:Phi}{Q:Value→Shared→Prop}{value slice:Expr}
theorem FL {a b:Int}{va vb:Value}(ra:Rep w φ s.heap (.int a) va) (rb:Rep w φ s.heap (.int b) vb) (h:Q (.bool (decide (a<b))) s):wpAny (model prog w) A (compareOp .Lt va vb) Q E s:=by
 exact bN (m:=fun va=>wpAny _ A (compareOp _ va vb) Q E s) ra fun t=>bN (m:=fun vb=>wpAny _ A (compareOp _ (.int a t) vb) Q E s) rb fun u=>P.lt_int h
theorem FM {a b:Int}{va vb:Value}(ra:Rep w φ s.heap (.int a) va) (rb:Rep w φ s.heap (.int b) vb) (h:Q (.bool (decide (a≤b))) s):wpAny (model prog w) A (compareOp .LtE va vb) Q E s:=by
 exact bN (m:=fun va=>wpAny _ A (compareOp _ va vb) Q E s) ra fun t=>bN (m:=fun vb=>wpAny _ A (compareOp _ (.int a t) vb) Q E s) rb fun u=>P.le_int h
theorem FN {a b:Int}{va vb:Value}(ra:Rep w φ s.heap (.int a) va) (rb:Rep w φ s.heap (.int b) vb) (h:Q (.bool (decide (a>b))) s):wpAny (model prog w) A (compareOp .Gt va vb) Q E s:=by
 exact bN (m:=fun va=>wpAny _ A (compareOp _ va vb) Q E s) ra fun t=>bN (m:=fun vb=>wpAny _ A (compareOp _ (.int a t) vb) Q E s) rb fun u=>P.gt_int h
theorem FP {a b:Int}{va vb:Value}(ra:Rep w φ s.heap (.int a) va) (rb:Rep w φ s.heap (.int b) vb) (h:Q (.bool (decide (a≥b))) s):wpAny (model prog w) A (compareOp .GtE va vb) Q E s:=by
 exact bN (m:=fun va=>wpAny _ A (compareOp _ va vb) Q E s) ra fun t=>bN (m:=fun vb=>wpAny _ A (compareOp _ (.int a t) vb) Q E s) rb fun u=>P.ge_int h
theorem BY {l:List Nat}{i:Int}{k:Nat}{r:V}{vo vi:Value}(hsl:∀ o v,subscripted slice false o v=operate [o,v] (getItem o v)) (e1:seqIndex? i l.length=some k) (e:(l[k]?).map (fun c=>V.str [c])=some r) (ro:Rep w φ s.heap (.str l) vo) (ri:Rep w φ s.heap (.int i) vi) (h:bh w φ s r Q) :
 wpAny (model prog w) A (subscriptTail value slice vo vi) Q E s :=
 cv (m:=fun vo=>wpAny _ A (subscriptTail value slice vo vi) Q E s) ro fun t ok=>bN (m:=fun vi=>wpAny _ A (subscriptTail value slice (.str (txt l) t) vi) Q E s) ri fun u=>by
  obtain ⟨c,e2,rfl⟩:=Option.map_eq_some_iff.mp e
  obtain ⟨h1,h2,h3⟩:=iR e1
  have hl:l.length≤1048576:=ok.1
  refine tail_any (typeIs_str _ _ _) F.slot_str_getitem.lookup (P.getItem_str (c:=c) (BX (by omega) (by omega)) ?_ (h.tok (cI ⟨by show 1≤big;decide,fun d hd=>by rw [aai.mp hd];exact ok.2 _ (aah e2)⟩ _))) (hsl _ _)
  rw [bA,e1];exact List.getElem?_toArray.trans e2
theorem zv {xs:List V}{i:Int}{k:Nat}{r:V}{vo vi:Value}(hsl:∀ o v,subscripted slice false o v=operate [o,v] (getItem o v)) (e1:seqIndex? i xs.length=some k) (e:xs[k]? = some r) (ro:Rep w φ s.heap (.list xs) vo) (ri:Rep w φ s.heap (.int i) vi) (h:bh w φ s r Q) :
 wpAny (model prog w) A (subscriptTail value slice vo vi) Q E s :=
 dH (m:=fun vo=>wpAny _ A (subscriptTail value slice vo vi) Q E s) ro fun a vs n hl zz ho rs=>bN (m:=fun vi=>wpAny _ A (subscriptTail value slice (.ref a) vi) Q E s) ri fun u=>by
  obtain ⟨h1,h2,h3⟩:=iR e1
  obtain ⟨⟨q1,q2⟩,q3⟩:=lO e1
  obtain ⟨v,e3,rv⟩:=rs.get e
  have hL:s.heap.IsList a vs.toArray:=⟨_,ho,rfl,_,rfl⟩
  have hsz:vs.toArray.size=xs.length:=List.size_toArray.trans rs.len
  have e3:vs.toArray[k]? = some v:=List.getElem?_toArray.trans e3
  have hl:xs.length≤1048576:=hl
  refine tail_any hL.typeIs slot_list_getitem.lookup ?_ (hsl _ _)
  by_cases h0:i<0
  ·rw [if_pos h0] at q3
   exact wpAny_getItem_list_neg hL h0 (by rw [hsz];exact h2) (by lia) (x:=v) (by rw [hsz,q3];exact e3) (h.same rv)
  ·rw [if_neg h0] at q3
   exact wpAny_getItem_list hL (by lia) (by lia) (by rw [q3];exact e3) (h.same rv)
theorem DD {o i r:V}{vo vi:Value}(hsl:∀ o v,subscripted slice false o v=operate [o,v] (getItem o v)) (e:eR o i=some r) (ro:Rep w φ s.heap o vo) (ri:Rep w φ s.heap i vi) (h:bh w φ s r Q) :
 wpAny (model prog w) A (subscriptTail value slice vo vi) Q E s:=by
 cases i with
 | int i =>
  cases o with
  | str l=>obtain ⟨k,e1,e⟩:=Option.bind_eq_some_iff.mp (show _=some r from e);exact BY hsl e1 e ro ri h
  | list xs=>obtain ⟨k,e1,e⟩:=Option.bind_eq_some_iff.mp (show _=some r from e);exact zv hsl e1 e ro ri h
  | tup xs =>
   obtain ⟨k,e1,e⟩:=Option.bind_eq_some_iff.mp (show _=some r from e)
   refine bN (m:=fun vi=>wpAny _ A (subscriptTail value slice vo vi) Q E s) ri fun u=>?_
   rw [hV] at ro
   obtain ⟨hl,a,vs,n,rfl,m,ho,rs⟩:=ro
   obtain ⟨h1,h2,h3⟩:=iR e1
   have hl:xs.length≤1048576:=hl
   obtain ⟨v,e3,rv⟩:=rs.get e
   exact item_tupleT (t:=a) (l:=vs) (k:=i) ⟨_,ho,rfl,_,rfl⟩ (by omega) (by omega) (j:=k) (by rw [rs.len];exact e1) e3 (h.same rv) (hsl _ _)
  | _=>exact bH e
 | _=>exact bH e
theorem kN (h:Heap):KeptH (Ext h):=fun zz ob a=>a.trans (Ext.push _ ob)
theorem rj {l:List Nat}{t:Tok}{vl vu:Value}{lo hi:Option Int}(ok:fo l) (pl:IsPart vl lo) (pu:IsPart vu hi)
 (hsl:∀ o v,subscripted slice false o v=operate [v,o] (getItem o v)) (h:bh w φ s (.str (cut l lo hi)) Q) :
 wpAny (model prog w) A (subscriptTail value slice (.str (txt l) t) (.ref s.heap.objs.size)) Q E { s with heap:=s.heap.push { cls:=.type "slice",data:=.fields #[vl,vu,.none]}}:=by
 have fin:∀ h' t' k,Ext s.heap h'→Q (.str (Txt.slice (txt l) lo hi) t') { s with heap:=h',toks:=k}:=fun h' t' k x=>by
  rw [xQ]
  refine h _ _ _ x ?_
  rw [dB]
  exact ⟨⟨aaf (jT _ _ _) ok.1,fun c hc=>ok.2 c (BW hc)⟩,_,rfl⟩
 have sz:(txt l).length≤sizeLine:=by rw [bA];exact aaf ok.1 hY
 have ht:∀ r,letTemporaryGo value (.str (txt l) t) r=pure ():=fun r=>by cases value<;>rfl
 cases pl with
 | none =>
  cases pu with
  | none=>exact tail_of_ItemOn (SBH.sliceItem_nn (kN _) (Ext.refl _) fin sz) (hsl _ _) ht
  | int=>exact tail_of_ItemOn (SBH.sliceItem_ns (kN _) (Ext.refl _) fin sz) (hsl _ _) ht
 | int =>
  cases pu with
  | none=>exact tail_of_ItemOn (SBH.sliceItem_sn (kN _) (Ext.refl _) fin sz) (hsl _ _) ht
  | int=>exact tail_of_ItemOn (SBH.sliceItem_ss (kN _) (Ext.refl _) fin sz) (hsl _ _) ht
theorem j3 {h:Heap}{xs:List V}{vs:List Value}(hm:∀ m∈au φ,(h.get? m).isSome) (hl:xs.length≤big) (r:Reps w φ h xs vs):Rep w φ (h.push { cls:=.type "list",data:=.seq vs.toArray}) (.list xs) (.ref h.objs.size):=by
 rw [cX]
 exact ⟨hl,_,vs,0,rfl,f0 hm,Heap.get?_push_size _ rfl,r.ext (Ext.push _ _)⟩
theorem tN {h:Heap}{xs:List V}{vs:List Value}(hm:∀ m∈au φ,(h.get? m).isSome) (hl:xs.length≤big) (r:Reps w φ h xs vs):Rep w φ (h.push { cls:=.type "tuple",data:=.seq vs.toArray}) (.tup xs) (.ref h.objs.size):=by
 rw [hV]
 exact ⟨hl,_,vs,0,rfl,f0 hm,Heap.get?_push_size _ rfl,r.ext (Ext.push _ _)⟩
theorem zw {h h':Heap}(x:Ext h h') (hm:∀ m∈au φ,(h.get? m).isSome):∀ m∈au φ,(h'.get? m).isSome:=fun m q=>by
 obtain ⟨o,e⟩:=Option.isSome_iff_exists.mp (hm m q)
 rw [x _ _ e];rfl
theorem qs {xs:List V}{v vl vu:Value}{lo hi:Option Int}(hm:∀ m∈au φ,(s.heap.get? m).isSome) (ro:Rep w φ s.heap (.list xs) v) (pl:IsPart vl lo) (pu:IsPart vu hi)
 (hsl:∀ o v,subscripted slice false o v=operate [v,o] (getItem o v)) (h:bh w φ s (.list (cut xs lo hi)) Q) :
 wpAny (model prog w) A (subscriptTail value slice v (.ref s.heap.objs.size)) Q E { s with heap:=s.heap.push { cls:=.type "slice",data:=.fields #[vl,vu,.none]}}:=by
 simp only [cX] at ro
 obtain ⟨hl,a,vs,n,rfl,m,ho,rs⟩:=ro
 have hL:s.heap.IsList a vs.toArray:=⟨_,ho,rfl,_,rfl⟩
 have hL':(s.heap.push { cls:=.type "slice",data:=.fields #[vl,vu,.none]}).IsList a vs.toArray:=hL.push _
 refine tail_any (Heap.IsList.typeIs (s:={ s with heap:=s.heap.push { cls:=.type "slice",data:=.fields #[vl,vu,.none]}}) hL') slot_list_getitem.lookup
  (wpAny_getItem_list_slice hL' (Heap.IsSliceOf.new ..) pl pu .none (by decide) ?_ (by rw [List.size_toArray,rs.len];exact aaf hl hY)) (hsl _ _)
 refine h _ _ _ ((Ext.push _ _).trans (Ext.push _ _)) ?_
 rw [slicePick_plain]
 refine j3 (zw (Ext.push _ _) hm) (aaf (jT _ _ _) hl) ?_
 unfold cut
 have e:vs.toArray.size=xs.length:=by rw [List.size_toArray,rs.len]
 rw [e]
 exact ((rs.drop _).take _).ext (Ext.push _ _)
theorem zx {o r:V}{vo vl vu:Value}{lo hi:Option Int}(hm:∀ m∈au φ,(s.heap.get? m).isSome) (e:xP o lo hi=some r) (ro:Rep w φ s.heap o vo) (pl:IsPart vl lo) (pu:IsPart vu hi)
 (hsl:∀ o v,subscripted slice false o v=operate [v,o] (getItem o v)) (h:bh w φ s r Q) :
 wpAny (model prog w) A (subscriptTail value slice vo (.ref s.heap.objs.size)) Q E { s with heap:=s.heap.push { cls:=.type "slice",data:=.fields #[vl,vu,.none]}}:=by
 cases o with
 | str l=>exact cv (m:=fun vo=>wpAny (model prog w) A (subscriptTail value slice vo (.ref s.heap.objs.size)) Q E { s with heap:=s.heap.push { cls:=.type "slice",data:=.fields #[vl,vu,.none]}}) ro fun t ok=>rj ok pl pu hsl (aaa e▸h)
 | list xs=>exact qs hm ro pl pu hsl (aaa e▸h)
 | _=>exact bH e
end
noncomputable def inV (x c:V):Option Bool:=match c with
 | .list ys=>asS x fun l=>(bG ys).map fun L=>L.contains l
 | .str l=>asS x fun s=>match s with | [ch]=>some (decide (ch∈l)) | _=>none
 | .sset xs=>asS x fun l=>some (decide (l∈xs))
 | _=>none
inductive Bi where | len | min2 | max2 | ord | chr
noncomputable def Bi.id:Bi→String
 | .len=>"len" | .min2=>"min" | .max2=>"max" | .ord=>"ord" | .chr=>"chr"
noncomputable def DE (x:V):Option V:=match x with
 | .str l=>some (.int l.length)
 | .list xs=>some (.int xs.length)
 | _=>none
noncomputable def DF (x:V):Option V:=asS x fun l=>match l with | [c]=>some (.int c) | _=>none
noncomputable def o4 (x:V):Option V:=jt x fun i=>if 0≤i∧i<0x110000 then some (.str [i.toNat]) else none
noncomputable def vZ (xs:List V) (k:V→Option V):Option V:=match xs with
 | [x]=>k x
 | _=>none
noncomputable def zy (xs:List V) (k:V→V→Option V):Option V:=match xs with
 | [x,y]=>k x y
 | _=>none
theorem o5 {W:World}{φ:Phi}{h:Heap}{vs:List Value}{r:V}{xs:List V}{k:V→Option V}{m:List Value→Prop}(rs:Reps W φ h xs vs) (e:vZ xs k=some r) (kk:∀ x v,Rep W φ h x v→k x=some r→m [v]):m vs:=by
 cases xs with
 | nil=>exact bH e
 | cons x l=>cases l with
  | nil=>simp only [aB] at rs;obtain ⟨v,_,rfl,rx,rfl⟩:=rs;exact kk x v rx e
  | cons _ _=>exact bH e
theorem uP {W:World}{φ:Phi}{h:Heap}{vs:List Value}{r:V}{xs:List V}{k:V→V→Option V}{m:List Value→Prop}(rs:Reps W φ h xs vs) (e:zy xs k=some r) (kk:∀ x y v u,Rep W φ h x v→Rep W φ h y u→k x y=some r→m [v,u]):m vs:=by
 cases xs with
 | nil=>exact bH e
 | cons x l=>cases l with
  | nil=>exact bH e
  | cons y l=>cases l with
   | nil=>simp only [aB] at rs;obtain ⟨v,_,rfl,rx,u,_,rfl,ry,rfl⟩:=rs;exact kk x y v u rx ry e
   | cons _ _=>exact bH e
noncomputable def biV (b:Bi) (xs:List V):Option V:=match b with
 | .len=>vZ xs DE
 | .min2=>zy xs fun x y=>eQ x y fun a b=>some (.int (min a b))
 | .max2=>zy xs fun x y=>eQ x y fun a b=>some (.int (max a b))
 | .ord=>vZ xs DF
 | .chr=>vZ xs o4
inductive Sm where | join | starts | ends
noncomputable def Sm.name:Sm→Str
 | .join=>Str.ofString "join" | .starts=>Str.ofString "startswith" | .ends=>Str.ofString "endswith"
noncomputable def Sm.id:Sm→String
 | .join=>"str.join" | .starts=>"str.startswith" | .ends=>"str.endswith"
noncomputable def kO (y x:List Nat):Bool:=decide (x.take y.length=y)
noncomputable def f5 (y x:List Nat):Bool:=decide (y.length≤x.length∧x.drop (x.length - y.length)=y)
noncomputable def smV (m:Sm) (x y:V):Option V:=asS x fun l=>match m with
 | .join=>match l with
  | []=>asL y fun ys=>(bG ys).bind fun ts=>if ts.flatten.length≤big then some (.str ts.flatten) else none
  | _ :: _=>none
 | .starts=>asS y fun t=>some (.bool (kO t l))
 | .ends=>asS y fun t=>some (.bool (f5 t l))
noncomputable def v4 (xs:List V):Option V:=match xs with
 | []=>none
 | x :: xs=>match xs with
  | []=>jt x fun b=>some (.rng 0 b 1)
  | y :: xs=>match xs with
   | []=>eQ x y fun a b=>some (.rng a b 1)
   | z :: xs=>match xs with
    | []=>eQ x y fun a b=>jt z fun c=>if c=1∨c = -1 then some (.rng a b c) else none
    | _ :: _=>none
theorem DG {n:Nat}(h:n≤big):(n:Int)<2 ^ 63:=by unfold big at h;omega
theorem m7 {W:World}{φ:Phi}{h:Heap} : ∀ {ys:List V}{vs:List Value}{ts:List (List Nat)},bG ys=some ts→Reps W φ h ys vs→StrsAre vs (ts.map txt)∧∀ t∈ts,fo t
 | [],_,_,e,r=>by
  obtain rfl:=aaa e;rw [aN] at r;subst r;exact ⟨.nil,fun zz m=>absurd m List.not_mem_nil⟩
 | y :: ys,_,ts,e,r=>by
  rw [aB] at r
  obtain ⟨v,q,rfl,r1,r2⟩:=r
  refine cY (m:=fun y=>Rep W φ h y v→StrsAre (v :: q) (ts.map txt)∧∀ t∈ts,fo t) e (fun l e r1=>?_) r1
  obtain ⟨us,e',rfl⟩:=Option.map_eq_some_iff.mp e
  obtain ⟨a,b⟩:=m7 e' r2
  exact cv (m:=fun v=>StrsAre (v :: q) ((l :: us).map txt)∧∀ t∈l :: us,fo t) r1 fun t ok=>⟨.cons _ _ a,fun t m=>(List.mem_cons.mp m).elim (fun e=>e▸ok) (b t)⟩
theorem tO:∀ ts:List (List Nat),Txt.join (txt []) (ts.map txt)=txt ts.flatten:=by
 intro ts
 have step:∀ (l:List (List Nat)) (acc:Array Nat),(((l.map txt).foldl (fun acc p=>acc++(txt []).cps++p.cps) acc)).toList=acc.toList++l.flatten:=by
  intro l
  induction l with
  | nil=>intro acc;exact (List.append_nil _).symm
  | cons x l ih =>
   intro acc
   rw [List.map_cons,List.foldl_cons,ih]
   simp [txt]
 apply Str.ext'
 apply Array.ext'
 unfold Txt.join Builtin.Str.glued
 cases ts with
 | nil=>rfl
 | cons x l =>
  show (((l.map txt).foldl (fun acc p=>acc++(txt []).cps++p.cps) (txt x).cps)).toList=_
  rw [step]
  simp [txt]
theorem v8 (x y:List Nat):Txt.startswith (txt x) (txt y)=kO y x:=by
 unfold Txt.startswith kO
 rw [StrLaws.subAt_eq,bA,bA,Bool.eq_iff_iff]
 simp only [txt,List.drop_zero,Bool.and_eq_true,decide_eq_true_eq,beq_iff_eq]
 constructor
 ·exact fun h=>h.2
 ·intro h
  refine ⟨?_,h⟩
  have:=congrArg List.length h
  rw [List.length_take] at this;lia
theorem zA (x y:List Nat):Txt.endswith (txt x) (txt y)=f5 y x:=by
 unfold Txt.endswith f5
 rw [StrLaws.subAt_eq,bA,bA,Bool.eq_iff_iff]
 simp only [txt,Bool.and_eq_true,decide_eq_true_eq,beq_iff_eq,Nat.zero_add]
 constructor
 ·rintro ⟨a,b⟩
  refine ⟨a,?_⟩
  rw [List.take_of_length_le (by rw [aal];omega)] at b
  exact b
 ·rintro ⟨a,b⟩
  refine ⟨a,?_⟩
  rw [List.take_of_length_le (by rw [aal];omega)]
  exact b
section
variable {prog:Program}{w:World}{A:Around}{E:Value→Shared→Prop}{s:Shared}{φ:Phi}{Q:Value→Shared→Prop}
theorem zB {l:List Nat}{k:Nat→Option Bool}{r:Bool}(e:(match l with | [c]=>k c | _=>none)=some r):∃ c,l=[c]∧k c=some r:=by
 cases l with
 | nil=>exact bH e
 | cons c l=>cases l with
  | nil=>exact ⟨c,rfl,e⟩
  | cons _ _=>exact bH e
theorem uQ {x c:V}{r:Bool}{vx vc:Value}{Q':Value→Shared→Prop}(hu:A.units+3<cLine) (e:inV x c=some r) (rx:Rep w φ s.heap x vx) (rc:Rep w φ s.heap c vc) (h:∀ k,Q (.bool r) { s with toks:=k}) (h':∀ k,Q' (.bool (!r)) { s with toks:=k}) :
 wpAny (model prog w) A (compareOp .In vx vc) Q E s∧wpAny (model prog w) A (compareOp .NotIn vx vc) Q' E s:=by
 cases c with
 | list ys =>
  refine cY (m:=fun x=>Rep w φ s.heap x vx→wpAny (model prog w) A (compareOp .In vx vc) Q E s∧wpAny (model prog w) A (compareOp .NotIn vx vc) Q' E s) e (fun l e rx=>?_) rx
  obtain ⟨L,e1,e⟩:=Option.map_eq_some_iff.mp e
  refine dH (m:=fun vc=>wpAny (model prog w) A (compareOp .In vx vc) Q E s∧wpAny (model prog w) A (compareOp .NotIn vx vc) Q' E s) rc fun a vs n zz zz ho q=>?_
  obtain ⟨c1,_,r1⟩:=ju rx
  obtain ⟨c2,_,r2⟩:=iz e1 q
  have r3:=(rf l L).trans e
  have hu:A.units+1+min (PyData.depthAll (L.map eu)) (eu l).depth<cLine:=by rw [jv];exact Nat.lt_of_le_of_lt (Nat.le_add_right _ 2) hu
  exact ⟨SeqAt.in_list_reads (.list ho rfl rfl r2) r1 c2 c1 hu (r3.symm▸h s.toks),SeqAt.notIn_list_reads (.list ho rfl rfl r2) r1 c2 c1 hu (r3.symm▸h' s.toks)⟩
 | str l =>
  refine cY (m:=fun x=>Rep w φ s.heap x vx→wpAny (model prog w) A (compareOp .In vx vc) Q E s∧wpAny (model prog w) A (compareOp .NotIn vx vc) Q' E s) e (fun y e rx=>?_) rx
  obtain ⟨c,rfl,e⟩:=zB e
  obtain rfl:=aaa e
  refine cv (m:=fun vx=>wpAny (model prog w) A (compareOp .In vx vc) Q E s∧wpAny (model prog w) A (compareOp .NotIn vx vc) Q' E s) rx fun t zz=>cv (m:=fun vc=>wpAny (model prog w) A (compareOp .In (.str (txt [c]) t) vc) Q E s∧wpAny (model prog w) A (compareOp .NotIn (.str (txt [c]) t) vc) Q' E s) rc fun u zz=>?_
  have z:decide (c∈(txt l).cps.toList)=decide (c∈l):=decide_eq_decide.mpr (by simp [txt])
  exact ⟨P.in_str (by rw [show (txt [c])=(⟨#[c]⟩:Str) from rfl,StrLaws.found_one,z];exact h s.toks),P.notIn_str (by rw [show (txt [c])=(⟨#[c]⟩:Str) from rfl,StrLaws.found_one,z];exact h' s.toks)⟩
 | sset xs =>
  refine cY (m:=fun x=>Rep w φ s.heap x vx→wpAny (model prog w) A (compareOp .In vx vc) Q E s∧wpAny (model prog w) A (compareOp .NotIn vx vc) Q' E s) e (fun l e rx=>?_) rx
  obtain rfl:=aaa e
  refine cv (m:=fun vx=>wpAny (model prog w) A (compareOp .In vx vc) Q E s∧wpAny (model prog w) A (compareOp .NotIn vx vc) Q' E s) rx fun t zz=>?_
  rw [kM] at rc
  obtain ⟨a,o,n,rfl,m,ho,q,hn⟩:=rc
  have z:eB xs (txt l)=decide (l∈xs):=rfl
  exact ⟨wpAny_inSet_of (knd:=strKind prog w) (strKind_is _ _ _ _) rfl ((q prog).setOf ho hn) (by rw [z];exact h _),wpAny_notInSet_of (knd:=strKind prog w) (strKind_is _ _ _ _) rfl ((q prog).setOf ho hn) (by rw [z];exact h' _)⟩
 | _=>exact bH e
theorem FQ {x c:V}{r:Bool}{vx vc:Value}(hu:A.units+3<cLine) (e:inV x c=some r) (rx:Rep w φ s.heap x vx) (rc:Rep w φ s.heap c vc) (h:∀ k,Q (.bool r) { s with toks:=k}) :
 wpAny (model prog w) A (compareOp .In vx vc) Q E s:=(uQ (Q':=fun zz zz=>True) hu e rx rc h fun zz=>trivial).1
theorem zC {x c:V}{r:Bool}{vx vc:Value}(hu:A.units+3<cLine) (e:inV x c=some r) (rx:Rep w φ s.heap x vx) (rc:Rep w φ s.heap c vc) (h:∀ k,Q (.bool (!r)) { s with toks:=k}) :
 wpAny (model prog w) A (compareOp .NotIn vx vc) Q E s:=(uQ (Q:=fun zz zz=>True) hu e rx rc (fun zz=>trivial) h).2
theorem DH {x r:V}{v:Value}(e:DE x=some r) (rx:Rep w φ s.heap x v) (h:bh w φ s r Q):wpAny (model prog w) A (call (.builtin "len") [v]) Q E s:=by
 cases x with
 | str l =>
  refine cv (m:=fun v=>wpAny (model prog w) A (call (.builtin "len") [v]) Q E s) rx fun t ok=>P.len_str (by rw [bA];exact Int.not_le.mpr (DG ok.1)) ?_
  rw [bA]
  exact h.tok (aaa e▸bR _ _)
 | list xs =>
  refine dH (m:=fun v=>wpAny (model prog w) A (call (.builtin "len") [v]) Q E s) rx fun a us n hl m ho q=>?_
  have hsz:us.toArray.size=xs.length:=List.size_toArray.trans q.len
  refine PyProof.Rows.len_list (items:=us.toArray) ⟨_,ho,rfl,_,rfl⟩ (by rw [hsz];exact DG hl) ?_
  rw [hsz]
  exact h.tok (aaa e▸bR _ _)
 | _=>exact bH e
theorem xR {l:List Nat}{k:Nat→Option V}{r:V}(e:(match l with | [c]=>k c | _=>none)=some r):∃ c,l=[c]∧k c=some r:=by
 cases l with
 | nil=>exact bH e
 | cons c l=>cases l with
  | nil=>exact ⟨c,rfl,e⟩
  | cons _ _=>exact bH e
theorem DJ {x r:V}{v:Value}(e:DF x=some r) (rx:Rep w φ s.heap x v) (h:bh w φ s r Q):wpAny (model prog w) A (call (.builtin "ord") [v]) Q E s :=
 cY (m:=fun x=>Rep w φ s.heap x v→wpAny (model prog w) A (call (.builtin "ord") [v]) Q E s) e (fun l e rx=>by
  obtain ⟨c,rfl,e⟩:=xR e
  exact cv (m:=fun v=>wpAny (model prog w) A (call (.builtin "ord") [v]) Q E s) rx fun t zz=>P.ord_of_char (h.tok (aaa e▸bR _ _))) rx
theorem DK {x r:V}{v:Value}(e:o4 x=some r) (rx:Rep w φ s.heap x v) (h:bh w φ s r Q):wpAny (model prog w) A (call (.builtin "chr") [v]) Q E s :=
 fN (m:=fun x=>Rep w φ s.heap x v→wpAny (model prog w) A (call (.builtin "chr") [v]) Q E s) e (fun i e rx=>dS e fun q e=>bN (m:=fun v=>wpAny (model prog w) A (call (.builtin "chr") [v]) Q E s) rx fun t =>
  P.chr_of_int (by rw [decide_eq_false (by omega),decide_eq_false (by omega)];rfl) (h.tok (e▸cI (l:=[i.toNat]) ⟨(show 1≤big by decide),fun c hc=>by rw [aai.mp hc];clear h rx e hc;omega⟩ _))) rx
theorem BZ {a b:Int}{t u:Tok}{h:Heap} : Rep w φ h (.int (min a b)) (if a>b then .int b u else .int a t):=by
 split
 ·rename_i q;rw [Int.min_def,if_neg (Int.not_le.mpr q)];exact bR _ _
 ·rename_i q;rw [Int.min_def,if_pos (Int.not_lt.mp q)];exact bR _ _
theorem B0 {a b:Int}{t u:Tok}{h:Heap} : Rep w φ h (.int (max a b)) (if b>a then .int b u else .int a t):=by
 split
 ·rename_i q;rw [Int.max_def,if_pos (Int.le_of_lt q)];exact bR _ _
 ·rename_i q
  rw [Int.max_def]
  split
  ·rename_i q2;rw [Int.le_antisymm q2 (Int.not_lt.mp q)];exact bR _ _
  ·exact bR _ _
theorem FR (b:Bi) {xs:List V}{r:V}{vs:List Value}(hh:A.handled=none) (e:biV b xs=some r) (rs:Reps w φ s.heap xs vs) (h:bh w φ s r Q) :
 wpAny (model prog w) A (call (.builtin b.id) vs) Q E s:=by
 cases b with
 | len=>exact o5 (m:=fun vs=>wpAny (model prog w) A (call (.builtin _) vs) Q E s) rs e fun x v rx e=>DH e rx h
 | min2 =>
  refine uP (m:=fun vs=>wpAny (model prog w) A (call (.builtin _) vs) Q E s) rs e fun x y v u rx ry e=>gg (m:=fun v u=>wpAny (model prog w) A (call (.builtin _) [v,u]) Q E s) e rx ry fun a b t u e=>?_
  exact min_two_ints hh fun h' tk x=>h _ _ _ x (aaa e▸BZ)
 | max2 =>
  refine uP (m:=fun vs=>wpAny (model prog w) A (call (.builtin _) vs) Q E s) rs e fun x y v u rx ry e=>gg (m:=fun v u=>wpAny (model prog w) A (call (.builtin _) [v,u]) Q E s) e rx ry fun a b t u e=>?_
  exact max_two_ints hh fun h' tk x=>h _ _ _ x (aaa e▸B0)
 | ord=>exact o5 (m:=fun vs=>wpAny (model prog w) A (call (.builtin _) vs) Q E s) rs e fun x v rx e=>DJ e rx h
 | chr=>exact o5 (m:=fun vs=>wpAny (model prog w) A (call (.builtin _) vs) Q E s) rs e fun x v rx e=>DK e rx h
theorem B1 {ys:List V}{r:V}{t:Tok}{vy:Value}(e:((bG ys).bind fun ts=>if ts.flatten.length≤big then some (V.str ts.flatten) else none)=some r) (ry:Rep w φ s.heap (.list ys) vy) (h:bh w φ s r Q):wpAny (model prog w) A (call (.builtin "str.join") [.str (txt []) t,vy]) Q E s:=by
 obtain ⟨ts,e1,e⟩:=Option.bind_eq_some_iff.mp e
 refine dS e fun z e=>dH (m:=fun vy=>wpAny (model prog w) A (call (.builtin "str.join") [.str (txt []) t,vy]) Q E s) ry fun a us n hl m ho q=>?_
 obtain ⟨sa,ok⟩:=m7 e1 q
 have len:((ts.map txt).map (·.length)).sum=ts.flatten.length:=by
  rw [List.length_flatten,List.map_map]
  congr 1
 refine join_list (items:=us.toArray) ⟨_,ho,rfl,_,rfl⟩ (by simpa using sa) ?_ fun t' k=>?_
 ·rw [len,bA];unfold big at z;simp only [List.length_nil,Nat.mul_zero];exact aaf (by assumption) (by decide)
 ·rw [tO]
  refine h.tok (e▸cI ⟨z,fun c hc=>?_⟩ _)
  obtain ⟨l,hl,hc⟩:=List.mem_flatten.mp hc
  exact (ok l hl).2 c hc
theorem FS (m:Sm) {x y r:V}{vx vy:Value}(e:smV m x y=some r) (rx:Rep w φ s.heap x vx) (ry:Rep w φ s.heap y vy) (h:bh w φ s r Q) :
 wpAny (model prog w) A (call (.builtin m.id) [vx,vy]) Q E s:=by
 refine cY (m:=fun x=>Rep w φ s.heap x vx→wpAny (model prog w) A (call (.builtin m.id) [vx,vy]) Q E s) e (fun l e rx=>cv (m:=fun vx=>wpAny (model prog w) A (call (.builtin m.id) [vx,vy]) Q E s) rx fun t zz=>?_) rx
 cases m with
 | join =>
  cases l with
  | nil=>exact m6 (m:=fun y=>Rep w φ s.heap y vy→wpAny (model prog w) A (call (.builtin _) [.str (txt []) t,vy]) Q E s) e (fun ys e ry=>B1 e ry h) ry
  | cons _ _=>exact bH e
 | starts =>
  refine cY (m:=fun y=>Rep w φ s.heap y vy→wpAny (model prog w) A (call (.builtin _) [.str (txt l) t,vy]) Q E s) e (fun y e ry=>cv (m:=fun vy=>wpAny (model prog w) A (call (.builtin _) [.str (txt l) t,vy]) Q E s) ry fun u zz=>SC.startswith ?_) ry
  rw [v8]
  exact h.same (aaa e▸xO _)
 | ends =>
  refine cY (m:=fun y=>Rep w φ s.heap y vy→wpAny (model prog w) A (call (.builtin _) [.str (txt l) t,vy]) Q E s) e (fun y e ry=>cv (m:=fun vy=>wpAny (model prog w) A (call (.builtin _) [.str (txt l) t,vy]) Q E s) ry fun u zz=>SC.endswith ?_) ry
  rw [zA]
  exact h.same (aaa e▸xO _)
theorem o6 {h:Heap}{a b c:Int}{t u v:Tok}(hm:∀ m∈au φ,(h.get? m).isSome):Rep w φ (h.push { cls:=.type "range",data:=.fields #[.int a t,.int b u,.int c v]}) (.rng a b c) (.ref h.objs.size):=by
 rw [m4];exact ⟨_,_,_,_,rfl,f0 hm,Heap.get?_push_size _ rfl⟩
theorem DM {xs:List V}{r:V}{vs:List Value}(hm:∀ m∈au φ,(s.heap.get? m).isSome) (e:v4 xs=some r) (rs:Reps w φ s.heap xs vs) (h:bh w φ s r Q) :
 wpAny (model prog w) A (call (.type "range") vs) Q E s:=by
 cases xs with
 | nil=>exact bH e
 | cons x xs =>
  rw [aB] at rs;obtain ⟨vx,vs,rfl,rx,rs⟩:=rs
  cases xs with
  | nil =>
   rw [aN] at rs;subst rs
   exact fN (m:=fun x=>Rep w φ s.heap x vx→wpAny (model prog w) A (call (.type "range") [vx]) Q E s) e (fun b e rx=>bN (m:=fun vx=>wpAny (model prog w) A (call (.type "range") [vx]) Q E s) rx fun t=>call_range_1 (h _ _ _ (Ext.push _ _) (aaa e▸o6 hm))) rx
  | cons y xs =>
   rw [aB] at rs;obtain ⟨vy,vs,rfl,ry,rs⟩:=rs
   cases xs with
   | nil =>
    rw [aN] at rs;subst rs
    exact gg (m:=fun vx vy=>wpAny (model prog w) A (call (.type "range") [vx,vy]) Q E s) e rx ry fun a b t u e=>call_range_2 (h _ _ _ (Ext.push _ _) (aaa e▸o6 hm))
   | cons z xs =>
    rw [aB] at rs;obtain ⟨vz,vs,rfl,rz,rs⟩:=rs
    cases xs with
    | nil =>
     rw [aN] at rs;subst rs
     refine gg (m:=fun vx vy=>wpAny (model prog w) A (call (.type "range") [vx,vy,vz]) Q E s) e rx ry fun a b t u e=>fN (m:=fun z=>Rep w φ s.heap z vz→wpAny (model prog w) A (call (.type "range") [.int a t,.int b u,vz]) Q E s) e (fun c e rz=>bN (m:=fun vz=>wpAny (model prog w) A (call (.type "range") [.int a t,.int b u,vz]) Q E s) rz fun v=>dS e fun q e=>?_) rz
     exact call_range_3 (by lia) (h _ _ _ (Ext.push _ _) (e▸o6 hm)) (.inl (PyProof.noPylong_small (by omega)))
    | cons _ _=>exact bH e
end
end Mine
end
section
open PySem PySem.W PyProof.Rows PySem.Calls
namespace Mine
structure aH where
 an:Nat→Str
 inj:∀ i j,an i=an j→i=j
noncomputable def br (N:aH) (W:World) (φ:Phi) (h:Heap):ah→List DictEntry→Prop
 | [],es=>es=[]
 | (k,v) :: fs,es=>∃ e r,es=e :: r∧(∃ t,e.key = .str (N.an k) t)∧Rep W φ h v e.val∧handedIn e.val=true∧br N W φ h fs r
noncomputable def j4 (N:aH) (W:World) (φ:Phi) (h:Heap) (p:Addr×Addr):Ob→Prop
 | .inst c fs=>fs.length≤100∧h.get? p.1=some ⟨.ref c,some p.2,.plain,#[]⟩∧∃ es n,h.get? p.2=some (dictOf es n)∧br N W φ h fs es
structure Rel (N:aH) (W:World) (h₀:Heap) (σ:St) (φ:Phi) (h:Heap):Prop where
 base:Ext h₀ h
 len:φ.objs.length=σ.length
 apart:∀ b∈au φ,h₀.get? b=none
 nodup:(φ.objs.map (·.2)).Nodup
 bads:∀ b∈φ.bad,(h.get? b).isSome
 obs:∀ (k:Nat) (ob:Ob) (p:Addr×Addr),σ[k]? = some ob→φ.objs[k]? = some p→j4 N W φ h p ob
section
variable {N:aH}{W:World}{h₀ h h':Heap}{σ:St}{φ φ':Phi}
theorem br.mono {own:List Addr}(G:bM φ h φ') (K:bS φ own h h') (O:Own h own):∀ {fs:ah}{es:List DictEntry},br N W φ h fs es→br N W φ' h' fs es
 | [],_,r=>r
 | (_,_) :: _,_,⟨e,r,a,b,c,d,f⟩=>⟨e,r,a,b,c.mono G K O,d,br.mono G K O f⟩
theorem br.len:∀ {fs:ah}{es:List DictEntry},br N W φ h fs es→es.length=fs.length
 | [],_,r=>by subst r;rfl
 | (_,_) :: _,_,⟨e,r,a,_,_,_,f⟩=>by subst a;simp [br.len f]
theorem Rel.mut_some (R:Rel N W h₀ σ φ h):∀ m∈au φ,(h.get? m).isSome:=fun m q=>by
 rcases List.mem_append.mp q with q | q
 ·obtain ⟨p,hp,rfl⟩:=List.mem_map.mp q
  obtain ⟨k,hk,e⟩:=List.getElem_of_mem hp
  have e':φ.objs[k]? = some p:=by rw [List.getElem?_eq_getElem hk,e]
  obtain ⟨ob,hob⟩:∃ ob,σ[k]? = some ob:=⟨σ[k]'(by rw [← R.len];exact hk),List.getElem?_eq_getElem _⟩
  have:=R.obs k ob p hob e'
  cases ob with
  | inst c fs=>obtain ⟨_,_,es,n,a,_⟩:=this;rw [a];rfl
 ·exact R.bads m q
theorem Rel.ext (R:Rel N W h₀ σ φ h) (x:Ext h h'):Rel N W h₀ σ φ h' where
 base:=R.base.trans x
 len:=R.len
 apart:=R.apart
 nodup:=R.nodup
 bads:=fun b hb=>by
  obtain ⟨o,e⟩:=Option.isSome_iff_exists.mp (R.bads b hb)
  rw [x _ _ e];rfl
 obs:=fun k ob p a b=>by
  have:=R.obs k ob p a b
  cases ob with
  | inst c fs=>obtain ⟨l,c,es,n,d,f⟩:=this;exact ⟨l,x _ _ c,es,n,x _ _ d,f.mono (.refl _ _) (x.keep (own:=[])) (.nil _)⟩
theorem Rel.base_notmut (R:Rel N W h₀ σ φ h) {b:Addr}{o:Obj}(e:h₀.get? b=some o):b∉au φ:=fun q=>by
 rw [R.apart b q] at e;injection e
noncomputable def f6 (ow:List Addr) (h h':Heap):Prop:=∀ b o,h.get? b=some o→b∉ow→h'.get? b=some o
theorem f6.keep {ow:List Addr}(k:f6 ow h h'):bS φ ow h h':=fun b o e zz n=>⟨o,k b o e n,.refl _⟩
theorem zD {c:Value}{d:Option Addr}{sl} : ¬ dO ⟨c,d,.plain,sl⟩:=fun ⟨_,_,q⟩=>(by injection q)
theorem Rel.kept (R:Rel N W h₀ σ φ h) {own:List Addr}(X:Ext h₀ h') (K:bS φ own h h') (O:Own h own) (km:∀ m∈au φ,h'.get? m=h.get? m):Rel N W h₀ σ φ h' where
 base:=X
 len:=R.len
 apart:=R.apart
 nodup:=R.nodup
 bads:=fun b hb=>by rw [km b (aao _ hb)];exact R.bads b hb
 obs:=fun k ob p a b=>by
  have hp:p.2∈au φ:=List.mem_append_left _ (List.mem_map_of_mem (aah b))
  have:=R.obs k ob p a b
  cases ob with
  | inst c fs =>
   obtain ⟨l,c,es,n,d,f⟩:=this
   refine ⟨l,?_,es,n,(km _ hp).trans d,f.mono (.refl _ _) K O⟩
   by_cases q:p.1∈au φ
   ·rw [km _ q];exact c
   ·exact K.same c q (O.ne c tL) zD
theorem Rel.own (R:Rel N W h₀ σ φ h) {own:List Addr}(K:f6 own h h') (O:Own h own) (ob:∀ b∈own,h₀.get? b=none) (km:∀ m∈au φ,h'.get? m=h.get? m):Rel N W h₀ σ φ h' :=
 R.kept (fun b o e=>K _ _ (R.base _ _ e) fun m=>by rw [ob b m] at e;injection e) K.keep O km
theorem Rel.ban {B:List Addr}(R:Rel N W h₀ σ φ h) (K:Ext h h') (hb:∀ b∈B,h.get? b=none) (hb':∀ b∈B,(h'.get? b).isSome):Rel N W h₀ σ (φ.ban B) h' where
 base:=R.base.trans K
 len:=R.len
 apart:=fun b m=>by
  rcases eP.mp m with m | m
  ·exact R.apart b m
  ·cases e:h₀.get? b with
   | none=>rfl
   | some o=>have:=R.base _ _ e;rw [hb b m] at this;injection this
 nodup:=R.nodup
 bads:=fun b m=>by
  rcases List.mem_append.mp m with m | m
  ·obtain ⟨o,e⟩:=Option.isSome_iff_exists.mp (R.bads b m)
   rw [K _ _ e];rfl
  ·exact hb' b m
 obs:=fun k ob p a b=>by
  have:=R.obs k ob p a b
  have G:=bM.ban φ (h:=h) hb
  cases ob with
  | inst c fs=>obtain ⟨l,c,es,n,d,f⟩:=this;exact ⟨l,K _ _ c,es,n,K _ _ d,f.mono G (K.keep (own:=[])) (.nil _)⟩
end
noncomputable def co (fs:ah) (a:Nat):Option V:=(fs.find? (·.1==a)).map (·.2)
noncomputable def gv:ah→Nat→V→ah
 | [],a,v=>[(a,v)]
 | (k,x) :: r,a,v=>if k=a then (a,v) :: r else (k,x) :: gv r a v
theorem gh {x y:Str}{t:Tok} : (Value.str x t).isStr y=decide (x=y):=by
 show (x==y)=_
 rw [Bool.eq_iff_iff,beq_iff_eq,decide_eq_true_iff]
section
variable {N:aH}{W:World}{h:Heap}{φ:Phi}
theorem rm {a:Nat}{v:V} : ∀ {fs:ah}{es:List DictEntry},br N W φ h fs es→co fs a=some v→∃ e,es.find? (·.key.isStr (N.an a))=some e∧Rep W φ h v e.val∧handedIn e.val=true
 | [],_,_,q=>by simp [co] at q
 | (k,x) :: fs,_,⟨e,r,rfl,⟨t,ek⟩,rv,hd,f⟩,q=>by
  unfold co at q
  by_cases c:k=a
  ·subst c
   simp only [List.find?_cons,beq_self_eq_true,Option.map_some,Option.some.injEq] at q
   subst q
   refine ⟨e,?_,rv,hd⟩
   rw [List.find?_cons,ek,gh,decide_eq_true rfl]
  ·have:(k==a)=false:=beq_eq_false_iff_ne.mpr c
   rw [List.find?_cons,this] at q
   obtain ⟨e',h1,h2⟩:=rm f q
   refine ⟨e',?_,h2⟩
   rw [List.find?_cons,ek,gh,decide_eq_false (fun z=>c (N.inj _ _ z))]
   exact h1
theorem Bj {fs:ah}{es:List DictEntry} : br N W φ h fs es→es.any (·.refKey)=false:=by
 induction fs generalizing es with
 | nil=>intro r;cases r;rfl
 | cons p fs ih =>
  obtain ⟨k,x⟩:=p
  rintro ⟨e,r,rfl,⟨t,ek⟩,_,_,f⟩
  rw [List.any_cons,ih f]
  simp [DictEntry.refKey,ek]
theorem tP {fs:ah}{es:List DictEntry}(r:br N W φ h fs es) (name:Str):(getL name es).isSome=true:=by
 unfold getL
 split
 ·rfl
 ·rw [Bj r];rfl
theorem rn {a:Nat}{v:V}{u:Value}{hsh:Int}{tk:Tok}(rv:Rep W φ h v u) (hd:handedIn u=true):∀ {fs:ah}{es:List DictEntry},br N W φ h fs es→br N W φ h (gv fs a v) (putL (N.an a) hsh (.str (N.an a) tk) u es)
 | [],_,r=>by subst r;exact ⟨_,[],rfl,⟨tk,rfl⟩,rv,hd,rfl⟩
 | (k,x) :: fs,_,⟨e,r,rfl,⟨t,ek⟩,rx,hx,f⟩=>by
  unfold gv putL
  by_cases c:k=a
  ·subst c
   rw [if_pos rfl,ek,gh,decide_eq_true rfl,if_pos rfl]
   exact ⟨_,r,rfl,⟨t,rfl⟩,rv,hd,f⟩
  ·rw [if_neg c,ek,gh,decide_eq_false (fun z=>c (N.inj _ _ z)),if_neg (by decide)]
   exact ⟨e,_,rfl,⟨t,ek⟩,rx,hx,rn rv hd f⟩
theorem tQ (fs:ah) (a:Nat) (v:V):(gv fs a v).length≤fs.length+1:=by
 induction fs with
 | nil=>exact Nat.le_refl _
 | cons p r ih =>
  obtain ⟨k,x⟩:=p
  unfold gv
  split<;>simp only [List.length_cons]<;>lia
end
structure fO (N:aH) (K:Frag) (C:Addr) (as:List Nat):Prop where
 get:∀ n,plainGet K C n=true
 set:findIn K (.ref C) "__setattr__"=some (some (.builtin "object.__setattr__"))
 over:plainOver K C=true
 dict:hasDictIn K C=true
 attr:∀ a∈as,(∃ x,findIn K (.ref C) (N.an a)=some x∧noGet K x=true)∧takerIn K C (N.an a)=some none
section
variable {prog:Program}{w:World}{A:Around}{E:Value→Shared→Prop}{s:Shared}{K:Frag}{N:aH}{h₀:Heap}{σ:St}{φ:Phi}{C:Addr}{as:List Nat}{fs:ah}{k a:Nat}{p:Addr×Addr}
theorem o7 {c:Addr}(o:j4 N w φ s.heap p (.inst c fs)):∃ es n,s.heap.get? p.2=some (dictOf es n)∧br N w φ s.heap fs es∧InstAt s.heap p.1 ⟨.ref c,some p.2,.plain,#[]⟩ c (some (dictOf es n)):=by
 obtain ⟨_,a,es,n,b,c⟩:=o
 exact ⟨es,n,b,c,a,rfl,rfl,b⟩
theorem xS {v:V}{expr:Bool}{Q:Value→Shared→Prop}(X:K.In s.heap) (P:fO N K C as) (ha:a∈as) (o:j4 N w φ s.heap p (.inst C fs)) (e:co fs a=some v) (h:bh w φ s v Q) :
 wpAny (model prog w) A (getAttr (.ref p.1) (N.an a) expr) Q E s:=by
 obtain ⟨es,n,_,f,I⟩:=o7 o
 obtain ⟨en,e1,rv,hd⟩:=rm f e
 obtain ⟨⟨x,hx,hg⟩,_⟩:=P.attr a ha
 refine get_value X I (plainGet_of (P.get (N.an a))).1 (findObj_own P.dict hx hg ?_) hd (h.tok rv)
 show getL (N.an a) es=_
 unfold getL
 rw [e1]
set_option tactic.hygienic true in
theorem B2 {x C dx:Addr}{es:List DictEntry}{n:Nat}{name:Str}{v:Value}{Q:Unit→Shared→Prop}(X:K.In s.heap) (I:InstAt s.heap x ⟨.ref C,some dx,.plain,#[]⟩ C (some (dictOf es n)))
 (hd:s.heap.get? dx=some (dictOf es n)) (hs:findIn K (.ref C) "__setattr__"=some (some (.builtin "object.__setattr__"))) (hp:plainOver K C=true) (ht:takerIn K C name=some none) (hh:hasDictIn K C=true) (hl:(getL name es).isSome=true) (hz:es.length≤1000)
 (h:∀ hsh tk,(s.heap.update dx (Obj.putName name hsh (.str name tk) v)).get? dx=some (dictOf (putL name hsh (.str name tk) v es) (putN name es n))→∀ k,Q () { s with heap:=s.heap.update dx (Obj.putName name hsh (.str name tk) v),toks:=k}) :
 wpAny (model prog w) A (setAttr (.ref x) name v) Q E s:=by
 refine set_plain X I hs (osa_open (s:={ s with toks:=s.toks+1}) X I hp ht fun b=>?_)
 obtain ⟨cd,hc,hd'⟩:=any_some (show (clsIn K C).any (·.hasDict)=true from hh)
 have hx:=I.at_
 refine wpAny_bind (wpAny_pure (wpAny_bind (wpAny_bind (wpAny_loadPart (s:={ s with toks:=s.toks+1}) hx (wpAny_bind (looks_clsIn (M:=model prog w) X hc _ _ _ _ (fun zz zz e=>e) ?_))))))
 rw [hd']
 refine wpAny_pure (a:=some dx) (wpAny_bind (wpAny_pure (wpAny_bind ?_)))
 unfold nsSet
 refine wpAny_bind (wpAny_bind (wpAny_askSetting (wpAny_pure (wpAny_bind (wpAny_mkText (wpAny_bind (wpAny_loadPart (s:={ s with toks:=s.toks+1+1}) hd ?_)))))))
 have c:(!es.toArray.any (·.key.isStr name)&&es.toArray.any (·.refKey))=false:=by
  rw [← Array.any_toList,← Array.any_toList]
  unfold getL at hl
  split at hl
  ·rename_i en he
   rw [List.any_eq_true.mpr ⟨en,List.mem_of_find?_eq_some he,List.find?_some he⟩];rfl
  ·split at hl
   ·injection hl
   ·rename_i z;rw [Bool.not_eq_true] at z;rw [z,Bool.and_false]
 simp only [dictOf]
 rw [aRefKeyMayBeTheName_at,c]
 refine wpAny_updatePart hd ?_
 have D':(s.heap.update dx (Obj.putName name (PyData.keyHash w.params name) (.str name (s.toks+1)) v)).get? dx=some (dictOf (putL name (PyData.keyHash w.params name) (.str name (s.toks+1)) v es) (putN name es n)):=by
  have:=Heap.get?_update_self (h:=s.heap) (Obj.putName name (PyData.keyHash w.params name) (.str name (s.toks+1)) v) hd (by rw [putName_dict];rfl)
  rw [this,putName_dict]
 refine wpAny_bind (wpAny_lookBehind D' (pastItsLine_dict ?_) ?_)
 ·rw [List.size_toArray,sizeLine_eq]
  have:∀ l:List DictEntry,(putL name (PyData.keyHash w.params name) (.str name (s.toks+1)) v l).length≤l.length+1:=fun l=>by
   induction l with
   | nil=>exact Nat.le_refl _
   | cons e r ih=>unfold putL;split<;>simp only [List.length_cons]<;>lia
  have:=this es
  lia
 ·exact wpAny_pure (h _ _ D' _)
theorem zE (fs:ah) (a:Nat) (v:V) (h:(co fs a).isSome=true):(gv fs a v).length=fs.length:=by
 induction fs with
 | nil=>injection h
 | cons p r ih =>
  obtain ⟨k,x⟩:=p
  unfold gv
  by_cases c:k=a
  ·rw [if_pos c];rfl
  ·rw [if_neg c]
   have c':(k==a)=false:=beq_eq_false_iff_ne.mpr c
   unfold co at h
   rw [List.find?_cons,c'] at h
   exact congrArg (· + 1) (ih h)
noncomputable def qE (φ:Phi) (h h':Heap):Prop:=∀ b o,h.get? b=some o→b∉au φ→h'.get? b=some o
theorem qE.keep {φ:Phi}{h h':Heap}(k:qE φ h h'):bS φ [] h h':=fun b o e n zz=>⟨o,k b o e n,.refl _⟩
theorem DN {v:V}{u:Value}{Q:Unit→Shared→Prop}(X:K.In s.heap) (P:fO N K C as) (ha:a∈as) (R:Rel N w h₀ σ φ s.heap) (hk:σ[k]? = some (.inst C fs)) (hp:φ.objs[k]? = some p) (hlen:(gv fs a v).length≤100) (rv:Rep w φ s.heap v u) (hh:handedIn u=true)
 (h:∀ h' tk,qE φ s.heap h'→Rel N w h₀ (σ.set k (.inst C (gv fs a v))) φ h'→Q () { s with heap:=h',toks:=tk}) :
 wpAny (model prog w) A (setAttr (.ref p.1) (N.an a) u) Q E s:=by
 have o:=R.obs k _ p hk hp
 obtain ⟨es,n,hd,f,I⟩:=o7 o
 obtain ⟨_,ht⟩:=P.attr a ha
 have hm:p.2∈au φ:=List.mem_append_left _ (List.mem_map_of_mem (aah hp))
 refine B2 X I hd P.set P.over ht P.dict (tP f _) (by have:=o.1;rw [f.len];lia) fun hsh tk D' tk'=>?_
 have kept:qE φ s.heap (s.heap.update p.2 (Obj.putName (N.an a) hsh (.str (N.an a) tk) u)):=fun b o e nb=>(Heap.get?_update_ne _ _ _ _ (fun q:b=p.2=>nb (q▸hm))).trans e
 have keep:bS φ [] s.heap (s.heap.update p.2 (Obj.putName (N.an a) hsh (.str (N.an a) tk) u)):=kept.keep
 refine h _ _ kept ?_
 have gr:=bM.refl φ s.heap
 refine ⟨fun b o e=>kept _ _ (R.base _ _ e) (R.base_notmut e),by rw [List.length_set];exact R.len,R.apart,R.nodup,fun b hb=>?_,fun j ob q hj hq=>?_⟩
 ·by_cases c:b=p.2
  ·rw [c,D'];rfl
  ·rw [Heap.get?_update_ne _ _ _ _ c];exact R.bads b hb
 by_cases c:k=j
 ·subst c
  rw [hp] at hq;obtain rfl:=aaa hq
  have hlt:k<σ.length:=by
   rcases Nat.lt_or_ge k σ.length with z | z
   ·exact z
   ·rw [List.getElem?_eq_none z] at hk;injection hk
  rw [List.getElem?_set_self hlt] at hj
  obtain rfl:=aaa hj
  refine ⟨hlen,?_,_,_,D',rn (rv.mono gr keep (.nil _)) hh (f.mono gr keep (.nil _))⟩
  exact (Heap.get?_update_ne _ _ _ _ (fun q:p.1=p.2=>by have:=I.at_;rw [q,hd] at this;(injection this with hE;(injection hE with hE;cases hE)))).trans I.at_
 ·rw [List.getElem?_set_ne c] at hj
  have oj:=R.obs j ob q hj hq
  have ne2:q.2≠p.2:=fun z=>by
   have nd:=R.nodup
   have i1:(φ.objs.map (·.2))[k]? = some p.2:=by simp [hp]
   have i2:(φ.objs.map (·.2))[j]? = some p.2:=by simp [hq,z]
   exact c ((List.getElem?_inj (by
    rcases Nat.lt_or_ge k (φ.objs.map (·.2)).length with y | y
    ·exact y
    ·rw [List.getElem?_eq_none y] at i1;injection i1) nd).mp (i1.trans i2.symm))
  cases ob with
  | inst c' fs' =>
   obtain ⟨l,b,es',n',d,f'⟩:=oj
   exact ⟨l,(Heap.get?_update_ne _ _ _ _ (fun z:q.1=p.2=>by rw [z,hd] at b;(injection b with hE;(injection hE with hE;cases hE)))).trans b,es',n',(Heap.get?_update_ne _ _ _ _ ne2).trans d,f'.mono gr keep (.nil _)⟩
end
noncomputable def own (env:Env):List Addr:=[env.locals]
structure Fra (W:World) (h₀:Heap) (φ:Phi) (env:Env) (vars:List Str) (ρ:List (Option V)) (h:Heap):Prop where
 fn:env.scope.kind = .function
 ns:∃ m,h.Ns env.locals m∧∀ (i:Nat) (v:V) (n:Str),ρ[i]? = some (some v)→vars[i]? = some n→env.kindOf n=some .local→∃ u,m n=some u∧Rep W φ h v u
 fresh:∀ b∈own env,h₀.get? b=none
 notm:∀ b∈own env,b∉au φ
section
variable {N:aH}{prog:Program}{W w:World}{h₀ h h':Heap}{σ:St}{φ φ':Phi}{env:Env}{vars:List Str}{ρ:List (Option V)}{A:Around}{E:Value→Shared→Prop}{s:Shared}
theorem Fra.own_ok (F:Fra W h₀ φ env vars ρ h):Own h (own env):=fun b hb=>by
 rw [aai.mp hb]
 obtain ⟨m,⟨o,es,ep,e,d,_⟩,_⟩:=F.ns
 exact ⟨o,e,.inl ⟨es,ep,d⟩⟩
theorem Fra.own_some (F:Fra W h₀ φ env vars ρ h):∀ b∈own env,∃ o,h.get? b=some o:=fun b hb=>let ⟨o,e,_⟩:=F.own_ok b hb;⟨o,e⟩
theorem Ns.at1 {a:Addr}{m}(x:h.Ns a m) (e:∀ o,h.get? a=some o→h'.get? a=some o):h'.Ns a m:=let ⟨o,es,ep,y,r⟩:=x;⟨o,es,ep,e _ y,r⟩
theorem Ns.alike {a:Addr}{m}(x:h.Ns a m) (e:∀ o,h.get? a=some o→∃ o',h'.get? a=some o'∧d8 o o'):h'.Ns a m:=by
 obtain ⟨o,es,ep,y,r⟩:=x
 obtain ⟨o',y',k⟩:=e _ y
 rcases k with rfl | ⟨_,sl,rfl⟩
 ·exact ⟨_,es,ep,y',r⟩
 ·exact ⟨_,es,ep,y',r⟩
theorem Fra.keep {ow:List Addr}(F:Fra W h₀ φ env vars ρ h) (G:bM φ h φ') (K:bS φ ow h h') (O:Own h ow) (ap:∀ b∈own env,b∉ow):Fra W h₀ φ' env vars ρ h' where
 fn:=F.fn
 ns:=by
  obtain ⟨m,a,b⟩:=F.ns
  refine ⟨m,Ns.alike a fun o e=>K _ _ e (F.notm _ aam) (ap _ aam),fun i v n x y z=>?_⟩
  obtain ⟨u,p,q⟩:=b i v n x y z
  exact ⟨u,p,q.mono G K O⟩
 fresh:=F.fresh
 notm:=fun b hb=>let ⟨_,e⟩:=F.own_some b hb;G.notmem e (F.notm b hb)
theorem Fra.keep0 (F:Fra W h₀ φ env vars ρ h) (G:bM φ h φ') (K:bS φ [] h h'):Fra W h₀ φ' env vars ρ h':=F.keep G K (.nil _) fun zz zz m=>absurd m List.not_mem_nil
theorem Fra.ext (F:Fra W h₀ φ env vars ρ h) (x:Ext h h'):Fra W h₀ φ env vars ρ h':=F.keep0 (.refl _ _) x.keep
noncomputable def kP (sc:Scope) (n:Str):Bool:=sc.names.lookup n==some .local
theorem Fra.load {i:Nat}{v:V}{n:Str}{Q:Value→Shared→Prop}(F:Fra w h₀ φ env vars ρ s.heap) (hv:ρ[i]? = some (some v)) (hn:vars[i]? = some n) (hk:kP env.scope n=true)
 (h:∀ u,Rep w φ s.heap v u→Q u s):wpAny (model prog w) A (loadName env n) Q E s:=by
 obtain ⟨m,a,b⟩:=F.ns
 obtain ⟨u,p,q⟩:=b i v n hv hn (eq_of_beq hk)
 exact wpAny_loadName_local F.fn (eq_of_beq hk) a p (h u q)
theorem ia (nd:vars.Nodup) {i j:Nat}{n:Str}(a:vars[i]? = some n) (b:vars[j]? = some n):i=j:=by
 have:i<vars.length:=by
  rcases Nat.lt_or_ge i vars.length with h | h
  ·exact h
  ·rw [List.getElem?_eq_none h] at a;injection a
 exact (List.getElem?_inj this nd).mp (a.trans b.symm)
theorem xT {i j:Nat}{v x:V}(e:(ρ.set i (some v))[j]? = some (some x)):(i=j∧x=v)∨(i≠j∧ρ[j]? = some (some x)):=by
 rw [List.getElem?_set] at e
 split at e
 ·split at e
  ·(injection e with hE;cases hE);exact .inl ⟨‹_›,rfl⟩
  ·injection e
 ·exact .inr ⟨‹_›,e⟩
theorem Fra.store {i:Nat}{v:V}{u:Value}{n:Str}{Q:Unit→Shared→Prop}(F:Fra w h₀ φ env vars ρ s.heap) (R:Rel N w h₀ σ φ s.heap) (nd:vars.Nodup) (hn:vars[i]? = some n) (hk:kP env.scope n=true)
 (rv:Rep w φ s.heap v u)
 (h:∀ h' tk,f6 (own env) s.heap h'→Fra w h₀ φ env vars (ρ.set i (some v)) h'→Rel N w h₀ σ φ h'→Q () { s with heap:=h',toks:=tk}):wpAny (model prog w) A (storeName env n u) Q E s:=by
 have O:=F.own_ok
 have k:env.kindOf n=some .local:=eq_of_beq hk
 obtain ⟨m,a,b⟩:=F.ns
 refine wpAny_storeName_local k a (fun h' hn' hs'=>?_) (by rw [F.fn];rfl)
 have K':f6 (own env) s.heap h':=fun b o e nb=>hs'.extBut b o (fun q=>nb (q▸aam)) e
 refine h h' _ K' ⟨F.fn,⟨_,hn',fun j x n' e y z=>?_⟩,F.fresh,F.notm⟩ (R.own K' O F.fresh fun m q=>hs'.2 m fun z=>F.notm _ aam (z▸q))
 rcases xT e with ⟨rfl,rfl⟩ | ⟨ne,e⟩
 ·rw [hn] at y;obtain rfl:=aaa y
  exact ⟨u,if_pos rfl,rv.mono (.refl _ _) K'.keep O⟩
 ·obtain ⟨u',p,q⟩:=b j x n' e y z
  exact ⟨u',(if_neg fun (z':n'=n)=>ne (ia nd hn (z'▸y))).trans p,q.mono (.refl _ _) K'.keep O⟩
end
inductive Cop where | eq | ne | lt | le | gt | ge | isin | notin
noncomputable def Cop.py:Cop→CmpOp
 | .eq=>.Eq | .ne=>.NotEq | .lt=>.Lt | .le=>.LtE | .gt=>.Gt | .ge=>.GtE | .isin=>.In | .notin=>.NotIn
noncomputable def zF (o:Cop) (a b:V):Option Bool:=match o with
 | .eq=>eqL a b
 | .ne=>(eqL a b).map (!·)
 | .lt=>eQ a b fun x y=>some (decide (x<y))
 | .le=>eQ a b fun x y=>some (decide (x≤y))
 | .gt=>eQ a b fun x y=>some (decide (x>y))
 | .ge=>eQ a b fun x y=>some (decide (x≥y))
 | .isin=>inV a b
 | .notin=>(inV a b).map (!·)
inductive X where
 | non | bool (b:Bool) | int (i:Int) | str (l:List Nat)
 | loc (i:Nat)
 | glob (i:Nat)
 | bin (o:Bop) (a b:X)
 | cmp (o:Cop) (a b:X)
 | conj (xs:List X) | disj (xs:List X) | not (a:X) | neg (a:X)
 | ife (c a b:X)
 | idx (a i:X)
 | slc (a lo hi:X)
 | lst (xs:List X) | tup (xs:List X)
 | attr (a:X) (n:Nat)
 | cat (k:Nat)
 | bi (b:Bi) (xs:List X)
 | rng (xs:List X)
 | sm (m:Sm) (a b:X)
 | call (f:Nat) (xs:List X)
 | meth (a:X) (m:Nat) (xs:List X)
 | new (c:Nat)
 | comp (x:X) (v:Nat) (it:X)
structure Pg where
 an:Nat→Str
 gls:List (Str×V)
 fns:List Str
 mt:List (Addr×Nat×Nat)
 cl:List (Str×Addr×Nat)
 cat:List (Str×Addr×Str×V)
 cs:List Addr
 ats:List Nat
 ro:Addr→Option ah
 ex:List (Str×Addr)
noncomputable abbrev ib:=List V→St→Option (V×St)
structure Sg where
 P:Pg
 Φ:Nat→ib
 Ψ:Nat→List V→Option V
noncomputable abbrev Rho:=List (Option V)
noncomputable def Pg.meth (P:Pg) (c:Addr) (m:Nat):Option Nat:=(P.mt.find? fun e=>e.1==c&&e.2.1==m).map (·.2.2)
noncomputable def eH:V→Option (List V)
 | .list xs=>some xs
 | .str l=>some (l.map fun c=>.str [c])
 | .rng a b c=>if -1≤a∧a≤1000000∧-1≤b∧b≤1000000 then
  if c=1 then some ((List.range (b - a).toNat).map fun (i:Nat)=>V.int (a+(i:Int)*1)) else if c = -1 then some ((List.range (a - b).toNat).map fun (i:Nat)=>V.int (a+(i:Int)*(-1))) else none
  else none
 | _=>none
noncomputable def ck:V→Option Bool
 | .bool b=>some b
 | _=>none
noncomputable def f7 (elt:V→Option V):List V→Option (List V)
 | []=>some []
 | x :: r=>(elt x).bind fun y=>(f7 elt r).map (y :: ·)
noncomputable def zG (G:Sg) (c:Nat) (σ:St):Option (V×St) :=
 (G.P.cl[c]?).bind fun e=>(G.Φ e.2.2 [.obj σ.length] (σ++[.inst e.2.1 []])).bind fun r=>match r.1 with | .none=>some (.obj σ.length,r.2) | _=>none
noncomputable def wa (G:Sg) (σ:St) (o:V) (m:Nat) (vs:List V):Option (V×St) :=
 match o with
 | .obj k=>match σ[k]? with
  | some (.inst c fs)=>if (co fs m).isNone then (G.P.meth c m).bind fun f=>G.Φ f (o :: vs) σ else none
  | none=>none
 | _=>none
noncomputable def cL (P:Pg) (σ:St) (o:V) (a:Nat):Option V :=
 match o with
 | .obj k=>match σ[k]? with
  | some (.inst c fs)=>if P.cs.contains c&&P.ats.contains a then co fs a else none
  | none=>none
 | .g v=>if P.ats.contains a then (match v with | .ref x=>(P.ro x).bind fun fs=>co fs a | _=>none) else none
 | _=>none
mutual
noncomputable def ev (G:Sg) (ρ:Rho) (σ:St):X→Option (V×St)
 | .non=>some (.none,σ)
 | .bool b=>some (.bool b,σ)
 | .int i=>some (.int i,σ)
 | .str l=>some (.str l,σ)
 | .loc i=>(ρ[i]?).bind fun v=>v.map (·,σ)
 | .glob i=>(G.P.gls[i]?).map fun e=>(e.2,σ)
 | .bin o a b=>(ev G ρ σ a).bind fun p=>(ev G ρ p.2 b).bind fun q=>(DA o p.1 q.1).map (·,q.2)
 | .cmp o a b=>(ev G ρ σ a).bind fun p=>(ev G ρ p.2 b).bind fun q=>(zF o p.1 q.1).map (.bool ·,q.2)
 | .conj xs=>(evC G true ρ σ xs).map fun p=>(.bool p.1,p.2)
 | .disj xs=>(evC G false ρ σ xs).map fun p=>(.bool p.1,p.2)
 | .not a=>(ev G ρ σ a).bind fun p=>(ck p.1).map fun b=>(.bool (!b),p.2)
 | .neg a=>(ev G ρ σ a).bind fun p=>match p.1 with | .int i=>some (.int (-i),p.2) | _=>none
 | .ife c a b=>(ev G ρ σ c).bind fun p=>(ck p.1).bind fun t=>if t then ev G ρ p.2 a else ev G ρ p.2 b
 | .idx a i=>(ev G ρ σ a).bind fun p=>(ev G ρ p.2 i).bind fun q=>(eR p.1 q.1).map (·,q.2)
 | .slc a lo hi=>(ev G ρ σ a).bind fun p=>(ev G ρ p.2 lo).bind fun q=>(ev G ρ q.2 hi).bind fun r=>(qD q.1).bind fun l=>(qD r.1).bind fun u=>(xP p.1 l u).map (·,r.2)
 | .lst xs=>(evs G ρ σ xs).map fun p=>(.list p.1,p.2)
 | .tup xs=>(evs G ρ σ xs).map fun p=>(.tup p.1,p.2)
 | .attr a n=>(ev G ρ σ a).bind fun p=>(cL G.P p.2 p.1 n).map (·,p.2)
 | .cat k=>(G.P.cat[k]?).map fun e=>(e.2.2.2,σ)
 | .bi b xs=>(evs G ρ σ xs).bind fun p=>(biV b p.1).map (·,p.2)
 | .rng xs=>(evs G ρ σ xs).bind fun p=>(v4 p.1).map (·,p.2)
 | .sm m a b=>(ev G ρ σ a).bind fun p=>(ev G ρ p.2 b).bind fun q=>(smV m p.1 q.1).map (·,q.2)
 | .call f xs=>(evs G ρ σ xs).bind fun p=>(G.Ψ f p.1).map (·,p.2)
 | .meth a m xs=>(ev G ρ σ a).bind fun p=>(evs G ρ p.2 xs).bind fun q=>wa G q.2 p.1 m q.1
 | .new c=>zG G c σ
 | .comp x v it=>(ev G ρ σ it).bind fun p=>(eH p.1).bind fun its =>
  (f7 (fun i=>(ev G (ρ.set v (some i)) p.2 x).map (·.1)) its).map fun l=>(.list l,p.2)
noncomputable def evs (G:Sg) (ρ:Rho) (σ:St):List X→Option (List V×St)
 | []=>some ([],σ)
 | x :: xs=>(ev G ρ σ x).bind fun p=>(evs G ρ p.2 xs).map fun q=>(p.1 :: q.1,q.2)
noncomputable def evC (G:Sg) (u:Bool) (ρ:Rho) (σ:St):List X→Option (Bool×St)
 | []=>some (u,σ)
 | x :: xs=>(ev G ρ σ x).bind fun p=>(ck p.1).bind fun b=>if b=u then evC G u ρ p.2 xs else some (!u,p.2)
end
mutual
noncomputable def aK:X→Bool
 | .non | .bool _ | .int _ | .str _ | .loc _ | .glob _ | .cat _=>true
 | .bin _ a b | .cmp _ a b | .idx a b | .sm _ a b=>aK a&&aK b
 | .conj xs | .disj xs | .lst xs | .tup xs | .bi _ xs | .rng xs | .call _ xs=>pureXs xs
 | .not a | .neg a | .attr a _=>aK a
 | .ife a b c | .slc a b c=>aK a&&aK b&&aK c
 | .meth _ _ _ | .new _=>false
 | .comp x _ it=>aK x&&aK it
noncomputable def pureXs:List X→Bool
 | []=>true
 | x :: xs=>aK x&&pureXs xs
end
theorem bind_some {α β:Type}{x:Option α}{f:α→Option β}{b:β}(h:x.bind f=some b):∃ a,x=some a∧f a=some b:=Option.bind_eq_some_iff.mp h
theorem map_some {α β:Type}{x:Option α}{f:α→β}{b:β}(h:x.map f=some b):∃ a,x=some a∧f a=b:=Option.map_eq_some_iff.mp h
theorem bq {α β:Type}{x:Option α}{f:α→Option β}{b:β}{C:Prop}(h:x.bind f=some b) (k:∀ a,x=some a→f a=some b→C):C:=let ⟨a,p,q⟩:=bind_some h;k a p q
theorem aC {α γ β:Type}{x:Option (α×γ)}{f:α×γ→Option β}{b:β}{C:Prop}(h:x.bind f=some b) (k:∀ v s,x=some (v,s)→f (v,s)=some b→C):C:=let ⟨a,p,q⟩:=bind_some h;k a.1 a.2 p q
theorem qF {α γ δ β:Type}{x:Option (α×γ×δ)}{f:α×γ×δ→Option β}{b:β}{C:Prop}(h:x.bind f=some b) (k:∀ v s t,x=some (v,s,t)→f (v,s,t)=some b→C):C:=let ⟨a,p,q⟩:=bind_some h;k a.1 a.2.1 a.2.2 p q
theorem cF {α β:Type}{x:Option α}{f:α→β}{b:β}{C:Prop}(h:x.map f=some b) (k:∀ a,x=some a→f a=b→C):C:=let ⟨a,p,q⟩:=map_some h;k a p q
theorem eqE {α:Type}[BEq α] [LawfulBEq α] {a b:α}{m:α→Prop}(h:(a==b)=true) (k:m b):m a:=eq_of_beq h▸k
theorem DO {α:Type}[BEq α] [LawfulBEq α] {a b:α}{m:α→Prop}(h:(a==b)=true) (k:m a):m b:=eq_of_beq h▸k
theorem bn {a b:Bool}(h:(a&&b)=true):a=true∧b=true:=aac.mp h
theorem ew {a b c:Bool}(h:(a&&b&&c)=true):(a=true∧b=true)∧c=true:=⟨bn (bn h).1,(bn h).2⟩
theorem aq {a b:Bool}{C:Prop}(h:(a&&b)=true) (k:a=true→b=true→C):C:=k (bn h).1 (bn h).2
theorem aI {a b c:Bool}{C:Prop}(h:(a&&b&&c)=true) (k:a=true→b=true→c=true→C):C:=k (ew h).1.1 (ew h).1.2 (ew h).2
theorem ic {α β:Type}{a b:α}{x y:β}(e:some (a,x)=some (b,y)):x=y:=congrArg Prod.snd (aaa e)
set_option tactic.hygienic true in
mutual
theorem aX {G:Sg}{ρ:Rho} : ∀ {x:X}{σ σ':St}{v:V},aK x=true→ev G ρ σ x=some (v,σ')→σ'=σ:=by
 intro x σ σ' v p e
 cases x<;>(try (injection p;done))
 case non=>exact (ic e).symm
 case bool=>exact (ic e).symm
 case int=>exact (ic e).symm
 case str=>exact (ic e).symm
 case loc=>exact bq e fun zz zz e=>cF e fun zz zz e=>(congrArg Prod.snd e).symm
 case glob=>exact cF e fun zz zz e=>(congrArg Prod.snd e).symm
 case cat=>exact cF e fun zz zz e=>(congrArg Prod.snd e).symm
 case bin o a b=>exact aC e fun zz zz h1 e=>aC e fun zz zz h2 e=>cF e fun zz zz e=>(congrArg Prod.snd e).symm.trans ((aX (bn p).2 h2).trans (aX (bn p).1 h1))
 case cmp o a b=>exact aC e fun zz zz h1 e=>aC e fun zz zz h2 e=>cF e fun zz zz e=>(congrArg Prod.snd e).symm.trans ((aX (bn p).2 h2).trans (aX (bn p).1 h1))
 case idx a b=>exact aC e fun zz zz h1 e=>aC e fun zz zz h2 e=>cF e fun zz zz e=>(congrArg Prod.snd e).symm.trans ((aX (bn p).2 h2).trans (aX (bn p).1 h1))
 case sm o a b=>exact aC e fun zz zz h1 e=>aC e fun zz zz h2 e=>cF e fun zz zz e=>(congrArg Prod.snd e).symm.trans ((aX (bn p).2 h2).trans (aX (bn p).1 h1))
 case conj xs=>exact cF e fun zz h1 e=>(congrArg Prod.snd e).symm.trans (pure_stC p h1)
 case disj xs=>exact cF e fun zz h1 e=>(congrArg Prod.snd e).symm.trans (pure_stC p h1)
 case lst xs=>exact cF e fun zz h1 e=>(congrArg Prod.snd e).symm.trans (pure_sts p h1)
 case tup xs=>exact cF e fun zz h1 e=>(congrArg Prod.snd e).symm.trans (pure_sts p h1)
 case bi b xs=>exact bq e fun zz h1 e=>cF e fun zz zz e=>(congrArg Prod.snd e).symm.trans (pure_sts p h1)
 case rng xs=>exact bq e fun zz h1 e=>cF e fun zz zz e=>(congrArg Prod.snd e).symm.trans (pure_sts p h1)
 case call f xs=>exact bq e fun zz h1 e=>cF e fun zz zz e=>(congrArg Prod.snd e).symm.trans (pure_sts p h1)
 case not a=>exact bq e fun zz h1 e=>cF e fun zz zz e=>(congrArg Prod.snd e).symm.trans (aX (x:=a) p h1)
 case attr a n=>exact bq e fun zz h1 e=>cF e fun zz zz e=>(congrArg Prod.snd e).symm.trans (aX (x:=a) p h1)
 case neg a=>obtain ⟨⟨_,_⟩,h1,e⟩:=bind_some e;split at e<;>cases e;exact aX (x:=a) p h1
 case ife a b c =>
  refine aC e fun zz zz h1 e=>bq e fun t zz e=>?_
  cases t
  ·exact (aX (ew p).2 e).trans (aX (ew p).1.1 h1)
  ·exact (aX (ew p).1.2 e).trans (aX (ew p).1.1 h1)
 case slc a b c=>exact aC e fun zz zz h1 e=>aC e fun zz zz h2 e=>aC e fun zz zz h3 e=>bq e fun zz zz e=>bq e fun zz zz e=>cF e fun zz zz e=>(congrArg Prod.snd e).symm.trans ((aX (ew p).2 h3).trans ((aX (ew p).1.2 h2).trans (aX (ew p).1.1 h1)))
 case comp x v it=>exact aC e fun zz zz h1 e=>bq e fun zz zz e=>cF e fun zz zz e=>(congrArg Prod.snd e).symm.trans (aX (bn p).2 h1)
theorem pure_sts {G:Sg}{ρ:Rho} : ∀ {xs:List X}{σ σ':St}{vs:List V},pureXs xs=true→evs G ρ σ xs=some (vs,σ')→σ'=σ:=by
 intro xs σ σ' vs p e
 cases xs with
 | nil=>exact (ic e).symm
 | cons x xs=>exact aC e fun zz zz h1 e=>cF e fun zz h2 e=>(congrArg Prod.snd e).symm.trans ((pure_sts (bn p).2 h2).trans (aX (bn p).1 h1))
theorem pure_stC {G:Sg}{ρ:Rho}{u:Bool} : ∀ {xs:List X}{σ σ':St}{b:Bool},pureXs xs=true→evC G u ρ σ xs=some (b,σ')→σ'=σ:=by
 intro xs σ σ' b p e
 cases xs with
 | nil=>exact (ic e).symm
 | cons x xs =>
  refine aC e fun zz zz h1 e=>bq e fun t zz e=>?_
  by_cases q:t=u
  ·rw [if_pos q] at e;exact (pure_stC (bn p).2 e).trans (aX (bn p).1 h1)
  ·rw [if_neg q] at e;exact (ic e).symm.trans (aX (bn p).1 h1)
end
structure Cx where
 sc:Scope
 vars:List Str
 P:Pg
noncomputable def fq (sc:Scope) (n:Str):Bool:=sc.names.lookup n==some .globalImplicit&&!(n==("__debug__":Str))
noncomputable def bZ (e:Expr):Bool:=!(e.ctorIdx==22)
noncomputable def uR (e:Expr):Bool:=e.ctorIdx==26
noncomputable def Bi.nm:Bi→Str:=fun b=>b.id
noncomputable def uS (sc:Scope) (own:List Str):Bool :=
 sc.kind==.function&&(sc.names.all fun (n,k)=>k != .cell&&k != .free&&(if k==.local then own.contains n||n==(".0":Str) else true)&&sc.names.lookup n==some k)
 && own.all fun n=>sc.names.lookup n==some .local
noncomputable def i5 (e:Expr):Bool:=!(e.ctorIdx==7)
noncomputable def qG (x:X):Bool:=x.ctorIdx==0
theorem a7 {n k:Nat}{f:n=k→Bool}(h:(if h:n=k then f h else false)=true):∃ q:n=k,f q=true:=by
 by_cases q:n=k
 ·rw [dif_pos q] at h;exact ⟨q,h⟩
 ·rw [dif_neg q] at h;injection h
noncomputable def i6 (e:Expr) (kf:Const→Bool):Bool:=if h:e.ctorIdx=19 then Expr.Constant.elim (motive_1:=fun zz=>Bool) e h (fun k zz zz=>kf k) else false
theorem cM {e:Expr}{kf:Const→Bool}{m:Expr→Prop}(h:i6 e kf=true) (kk:∀ k n p,kf k=true→m (.Constant k n p)):m e :=
 let ⟨q,h'⟩:=a7 h;Expr.Constant.elim (motive_1:=fun e=>∀ (q:e.ctorIdx=19),Expr.Constant.elim (motive_1:=fun zz=>Bool) e q (fun k zz zz=>kf k)=true→m e) e q (fun k n p zz h=>kk k n p h) q h'
noncomputable def cN (e:Expr) (kf:Str→Bool):Bool:=if h:e.ctorIdx=23 then Expr.Name.elim (motive_1:=fun zz=>Bool) e h (fun n zz=>kf n) else false
theorem bu {e:Expr}{kf:Str→Bool}{m:Expr→Prop}(h:cN e kf=true) (kk:∀ n p,kf n=true→m (.Name n p)):m e :=
 let ⟨q,h'⟩:=a7 h;Expr.Name.elim (motive_1:=fun e=>∀ (q:e.ctorIdx=23),Expr.Name.elim (motive_1:=fun zz=>Bool) e q (fun n zz=>kf n)=true→m e) e q (fun n p zz h=>kk n p h) q h'
noncomputable def uT (e:Expr) (kf:Expr→Operator→Expr→Bool):Bool:=if h:e.ctorIdx=2 then Expr.BinOp.elim (motive_1:=fun zz=>Bool) e h (fun l o r zz=>kf l o r) else false
theorem m8 {e:Expr}{kf:Expr→Operator→Expr→Bool}{m:Expr→Prop}(h:uT e kf=true) (kk:∀ l o r p,kf l o r=true→m (.BinOp l o r p)):m e :=
 let ⟨q,h'⟩:=a7 h;Expr.BinOp.elim (motive_1:=fun e=>∀ (q:e.ctorIdx=2),Expr.BinOp.elim (motive_1:=fun zz=>Bool) e q (fun l o r zz=>kf l o r)=true→m e) e q (fun l o r p zz h=>kk l o r p h) q h'
noncomputable def p6 (e:Expr) (kf:Expr→List CmpOp→List Expr→Bool):Bool:=if h:e.ctorIdx=15 then Expr.Compare.elim (motive_1:=fun zz=>Bool) e h (fun l o r zz=>kf l o r) else false
theorem j5 {e:Expr}{kf:Expr→List CmpOp→List Expr→Bool}{m:Expr→Prop}(h:p6 e kf=true) (kk:∀ l o r p,kf l o r=true→m (.Compare l o r p)):m e :=
 let ⟨q,h'⟩:=a7 h;Expr.Compare.elim (motive_1:=fun e=>∀ (q:e.ctorIdx=15),Expr.Compare.elim (motive_1:=fun zz=>Bool) e q (fun l o r zz=>kf l o r)=true→m e) e q (fun l o r p zz h=>kk l o r p h) q h'
noncomputable def lZ (e:Expr) (kf:BoolOp→List Expr→Bool):Bool:=if h:e.ctorIdx=0 then Expr.BoolOp.elim (motive_1:=fun zz=>Bool) e h (fun o es zz=>kf o es) else false
theorem f8 {e:Expr}{kf:BoolOp→List Expr→Bool}{m:Expr→Prop}(h:lZ e kf=true) (kk:∀ o es p,kf o es=true→m (.BoolOp o es p)):m e :=
 let ⟨q,h'⟩:=a7 h;Expr.BoolOp.elim (motive_1:=fun e=>∀ (q:e.ctorIdx=0),Expr.BoolOp.elim (motive_1:=fun zz=>Bool) e q (fun o es zz=>kf o es)=true→m e) e q (fun o es p zz h=>kk o es p h) q h'
noncomputable def j6 (e:Expr) (kf:UnaryOp→Expr→Bool):Bool:=if h:e.ctorIdx=3 then Expr.UnaryOp.elim (motive_1:=fun zz=>Bool) e h (fun o x zz=>kf o x) else false
theorem ft {e:Expr}{kf:UnaryOp→Expr→Bool}{m:Expr→Prop}(h:j6 e kf=true) (kk:∀ o x p,kf o x=true→m (.UnaryOp o x p)):m e :=
 let ⟨q,h'⟩:=a7 h;Expr.UnaryOp.elim (motive_1:=fun e=>∀ (q:e.ctorIdx=3),Expr.UnaryOp.elim (motive_1:=fun zz=>Bool) e q (fun o x zz=>kf o x)=true→m e) e q (fun o x p zz h=>kk o x p h) q h'
noncomputable def uU (e:Expr) (kf:Expr→Expr→Expr→Bool):Bool:=if h:e.ctorIdx=5 then Expr.IfExp.elim (motive_1:=fun zz=>Bool) e h (fun t a b zz=>kf t a b) else false
theorem m9 {e:Expr}{kf:Expr→Expr→Expr→Bool}{m:Expr→Prop}(h:uU e kf=true) (kk:∀ t a b p,kf t a b=true→m (.IfExp t a b p)):m e :=
 let ⟨q,h'⟩:=a7 h;Expr.IfExp.elim (motive_1:=fun e=>∀ (q:e.ctorIdx=5),Expr.IfExp.elim (motive_1:=fun zz=>Bool) e q (fun t a b zz=>kf t a b)=true→m e) e q (fun t a b p zz h=>kk t a b p h) q h'
noncomputable def iS (e:Expr) (kf:Expr→Expr→Bool):Bool:=if h:e.ctorIdx=21 then Expr.Subscript.elim (motive_1:=fun zz=>Bool) e h (fun v s zz=>kf v s) else false
theorem d9 {e:Expr}{kf:Expr→Expr→Bool}{m:Expr→Prop}(h:iS e kf=true) (kk:∀ v s p,kf v s=true→m (.Subscript v s p)):m e :=
 let ⟨q,h'⟩:=a7 h;Expr.Subscript.elim (motive_1:=fun e=>∀ (q:e.ctorIdx=21),Expr.Subscript.elim (motive_1:=fun zz=>Bool) e q (fun v s zz=>kf v s)=true→m e) e q (fun v s p zz h=>kk v s p h) q h'
noncomputable def uV (e:Expr) (kf:Option Expr→Option Expr→Option Expr→Bool):Bool:=if h:e.ctorIdx=26 then Expr.Slice.elim (motive_1:=fun zz=>Bool) e h (fun l u st zz=>kf l u st) else false
theorem wb {e:Expr}{kf:Option Expr→Option Expr→Option Expr→Bool}{m:Expr→Prop}(h:uV e kf=true) (kk:∀ l u st p,kf l u st=true→m (.Slice l u st p)):m e :=
 let ⟨q,h'⟩:=a7 h;Expr.Slice.elim (motive_1:=fun e=>∀ (q:e.ctorIdx=26),Expr.Slice.elim (motive_1:=fun zz=>Bool) e q (fun l u st zz=>kf l u st)=true→m e) e q (fun l u st p zz h=>kk l u st p h) q h'
noncomputable def rp (e:Expr) (kf:List Expr→Bool):Bool:=if h:e.ctorIdx=24 then Expr.List.elim (motive_1:=fun zz=>Bool) e h (fun es zz=>kf es) else false
theorem j7 {e:Expr}{kf:List Expr→Bool}{m:Expr→Prop}(h:rp e kf=true) (kk:∀ es p,kf es=true→m (.List es p)):m e :=
 let ⟨q,h'⟩:=a7 h;Expr.List.elim (motive_1:=fun e=>∀ (q:e.ctorIdx=24),Expr.List.elim (motive_1:=fun zz=>Bool) e q (fun es zz=>kf es)=true→m e) e q (fun es p zz h=>kk es p h) q h'
noncomputable def kQ (e:Expr) (kf:List Expr→Bool):Bool:=if h:e.ctorIdx=25 then Expr.Tuple.elim (motive_1:=fun zz=>Bool) e h (fun es zz zz=>kf es) else false
theorem gI {e:Expr}{kf:List Expr→Bool}{m:Expr→Prop}(h:kQ e kf=true) (kk:∀ es k p,kf es=true→m (.Tuple es k p)):m e :=
 let ⟨q,h'⟩:=a7 h;Expr.Tuple.elim (motive_1:=fun e=>∀ (q:e.ctorIdx=25),Expr.Tuple.elim (motive_1:=fun zz=>Bool) e q (fun es zz zz=>kf es)=true→m e) e q (fun es k p zz h=>kk es k p h) q h'
noncomputable def dI (e:Expr) (kf:Expr→Str→Pos→Bool):Bool:=if h:e.ctorIdx=20 then Expr.Attribute.elim (motive_1:=fun zz=>Bool) e h (fun o nm p=>kf o nm p) else false
theorem bV {e:Expr}{kf:Expr→Str→Pos→Bool}{m:Expr→Prop}(h:dI e kf=true) (kk:∀ o nm p,kf o nm p=true→m (.Attribute o nm p)):m e :=
 let ⟨q,h'⟩:=a7 h;Expr.Attribute.elim (motive_1:=fun e=>∀ (q:e.ctorIdx=20),Expr.Attribute.elim (motive_1:=fun zz=>Bool) e q (fun o nm p=>kf o nm p)=true→m e) e q (fun o nm p zz h=>kk o nm p h) q h'
noncomputable def rq (e:Expr) (kf:Expr→List Expr→List Keyword→Pos→Bool):Bool:=if h:e.ctorIdx=16 then Expr.Call.elim (motive_1:=fun zz=>Bool) e h (fun f es ks p=>kf f es ks p) else false
theorem p7 {e:Expr}{kf:Expr→List Expr→List Keyword→Pos→Bool}{m:Expr→Prop}(h:rq e kf=true) (kk:∀ f es ks p,kf f es ks p=true→m (.Call f es ks p)):m e :=
 let ⟨q,h'⟩:=a7 h;Expr.Call.elim (motive_1:=fun e=>∀ (q:e.ctorIdx=16),Expr.Call.elim (motive_1:=fun zz=>Bool) e q (fun f es ks p=>kf f es ks p)=true→m e) e q (fun f es ks p zz h=>kk f es ks p h) q h'
noncomputable def ng (e:Expr) (kf:Expr→List Comprehension→Scope→Bool):Bool:=if h:e.ctorIdx=8 then Expr.ListComp.elim (motive_1:=fun zz=>Bool) e h (fun el gs sc zz=>kf el gs sc) else false
theorem jU {e:Expr}{kf:Expr→List Comprehension→Scope→Bool}{m:Expr→Prop}(h:ng e kf=true) (kk:∀ el gs sc p,kf el gs sc=true→m (.ListComp el gs sc p)):m e :=
 let ⟨q,h'⟩:=a7 h;Expr.ListComp.elim (motive_1:=fun e=>∀ (q:e.ctorIdx=8),Expr.ListComp.elim (motive_1:=fun zz=>Bool) e q (fun el gs sc zz=>kf el gs sc)=true→m e) e q (fun el gs sc p zz h=>kk el gs sc p h) q h'
noncomputable def uW (e:Const) (kf:Bool→Bool):Bool:=if h:e.ctorIdx=1 then Const.bool.elim (motive:=fun zz=>Bool) e h (fun b=>kf b) else false
theorem wc {e:Const}{kf:Bool→Bool}{m:Const→Prop}(h:uW e kf=true) (kk:∀ b,kf b=true→m (.bool b)):m e :=
 let ⟨q,h'⟩:=a7 h;Const.bool.elim (motive:=fun e=>∀ (q:e.ctorIdx=1),Const.bool.elim (motive:=fun zz=>Bool) e q (fun b=>kf b)=true→m e) e q (fun b zz h=>kk b h) q h'
noncomputable def xU (e:Const) (kf:Int→Bool):Bool:=if h:e.ctorIdx=2 then Const.int.elim (motive:=fun zz=>Bool) e h (fun i=>kf i) else false
theorem xV {e:Const}{kf:Int→Bool}{m:Const→Prop}(h:xU e kf=true) (kk:∀ i,kf i=true→m (.int i)):m e :=
 let ⟨q,h'⟩:=a7 h;Const.int.elim (motive:=fun e=>∀ (q:e.ctorIdx=2),Const.int.elim (motive:=fun zz=>Bool) e q (fun i=>kf i)=true→m e) e q (fun i zz h=>kk i h) q h'
noncomputable def xW (e:Const) (kf:Str→Bool):Bool:=if h:e.ctorIdx=5 then Const.str.elim (motive:=fun zz=>Bool) e h (fun s=>kf s) else false
theorem xX {e:Const}{kf:Str→Bool}{m:Const→Prop}(h:xW e kf=true) (kk:∀ s,kf s=true→m (.str s)):m e :=
 let ⟨q,h'⟩:=a7 h;Const.str.elim (motive:=fun e=>∀ (q:e.ctorIdx=5),Const.str.elim (motive:=fun zz=>Bool) e q (fun s=>kf s)=true→m e) e q (fun s zz h=>kk s h) q h'
theorem j8 {α:Type}{x:Option α}{f:α→Bool}{C:Prop}(h:x.any f=true) (k:∀ e,x=some e→f e=true→C):C:=by
 cases x with
 | none=>injection h
 | some e=>exact k e rfl h
noncomputable def one {α:Type}(l:List α) (f:α→Bool):Bool:=match l with | [x]=>f x | _=>false
theorem cw {α:Type}{l:List α}{kf:α→Bool}{m:List α→Prop}(h:one l kf=true) (k:∀ x,kf x=true→m [x]):m l:=by
 cases l with
 | nil=>injection h
 | cons x r=>cases r with
  | nil=>exact k x h
  | cons _ _=>injection h
theorem cO {α:Type}{l:List α}{m:List α→Prop}(h:l.isEmpty=true) (k:m []):m l:=by
 cases l with
 | nil=>exact k
 | cons _ _=>injection h
noncomputable def fP (e:Expr) (f:Str→List Expr→Bool):Bool:=rq e fun g es ks zz=>ks.isEmpty&&cN g fun n=>f n es
theorem cq {e:Expr}{kf:Str→List Expr→Bool}{m:Expr→Prop}(h:fP e kf=true) (k:∀ n p es q,kf n es=true→m (.Call (.Name n p) es [] q)):m e :=
 p7 h fun g es ks q h=>aq h fun h1 h2=>cO (m:=fun ks=>m (.Call g es ks q)) h1 (bu (m:=fun g=>m (.Call g es [] q)) h2 fun n p h=>k n p es q h)
noncomputable def kR (e:Expr) (f:Expr→Str→Pos→List Expr→Pos→Bool):Bool:=rq e fun g es ks q=>ks.isEmpty&&dI g fun o nm p=>f o nm p es q
theorem fu {e:Expr}{kf:Expr→Str→Pos→List Expr→Pos→Bool}{m:Expr→Prop}(h:kR e kf=true) (k:∀ o nm p es q,kf o nm p es q=true→m (.Call (.Attribute o nm p) es [] q)):m e :=
 p7 h fun g es ks q h=>aq h fun h1 h2=>cO (m:=fun ks=>m (.Call g es ks q)) h1 (bV (m:=fun g=>m (.Call g es [] q)) h2 fun o nm p h=>k o nm p es q h)
noncomputable def j9 (e:Expr):Bool:=!(fP e fun zz es=>es.isEmpty)
noncomputable def Bk (gs:List Comprehension) (f:Expr→Expr→List Expr→Bool):Bool:=one gs fun g=>decide (g.is_async=0)&&f g.target g.iter g.ifs
theorem zH {gs:List Comprehension}{kf:Expr→Expr→List Expr→Bool}{m:List Comprehension→Prop}(h:Bk gs kf=true) (k:∀ t i fs,kf t i fs=true→m [⟨t,i,fs,0⟩]):m gs :=
 cw h fun g h=>aq h fun h1 h2=>by
  obtain ⟨t,i,fs,a⟩:=g
  cases (of_decide_eq_true h1:a=0)
  exact k _ _ _ h2
mutual
noncomputable def okX (c:Cx):X→Expr→Bool
 | .non,e=>i6 e fun k=>k.ctorIdx==0
 | .bool b,e=>i6 e fun k=>uW k fun b'=>b==b'
 | .int i,e=>i6 e fun k=>xU k fun i'=>i==i'
 | .str l,e=>i6 e fun k=>xW k fun s=>s==txt l&&decide (l.length≤1000)&&l.all (· < 0x110000)
 | .loc i,e=>cN e fun n=>c.vars[i]?==some n&&kP c.sc n&&!(n==("__debug__":Str))
 | .glob i,e=>cN e fun n=>(c.P.gls[i]?).any (fun g=>g.1==n)&&fq c.sc n
 | .bin o a b,e=>uT e fun l op r=>op==o.py&&okX c a l&&okX c b r
 | .cmp o a b,e=>p6 e fun l ops rs=>one ops fun op=>one rs fun r=>op==o.py&&!behindInMarks op r&&okX c a l&&okX c b r
 | .conj xs,e=>lZ e fun op es=>op==.And&&!xs.isEmpty&&okXs c xs es
 | .disj xs,e=>lZ e fun op es=>op==.Or&&!xs.isEmpty&&okXs c xs es
 | .not a,e=>j6 e fun op x=>op==.Not&&okX c a x
 | .neg a,e=>j6 e fun op x=>op==.USub&&okX c a x
 | .ife t a b,e=>uU e fun t' a' b'=>okX c t t'&&okX c a a'&&okX c b b'
 | .idx a i,e=>iS e fun v s=>!uR s&&okX c a v&&okX c i s
 | .slc a lo hi,e=>iS e fun v s=>uV s fun l u st=>st.isNone&&(okX c a v&&(match l with | some e=>okX c lo e | none=>qG lo)&&(match u with | some e=>okX c hi e | none=>qG hi))
 | .lst xs,e=>rp e fun es=>okXs c xs es&&decide (xs.length≤1000)
 | .tup xs,e=>kQ e fun es=>okXs c xs es&&decide (xs.length≤1000)
 | .attr a n,e=>dI e fun o nm zz=>j9 o&&nm==c.P.an n&&okX c a o
 | .cat k,e=>dI e fun o nm zz=>cN o fun n=>(c.P.cat[k]?).any (fun q=>q.1==n&&q.2.2.1==nm)&&fq c.sc n
 | .bi b xs,e=>fP e fun n es=>n==b.nm&&fq c.sc n&&okXs c xs es
 | .rng xs,e=>fP e fun n es=>n==("range":Str)&&fq c.sc n&&okXs c xs es
 | .sm m a b,e=>kR e fun o nm ap es p=>one es fun x=>j9 o&&nm==m.name&&ap.endLine==p.line&&bZ x&&okX c a o&&okX c b x
 | .call f xs,e=>fP e fun n es=>c.P.fns[f]?==some n&&fq c.sc n&&okXs c xs es
 | .meth a m xs,e=>kR e fun o nm ap es p=>j9 o&&nm==c.P.an m&&ap.endLine==p.line&&decide (es.length<29)&&pureXs xs&&okX c a o&&okXs c xs es
 | .new k,e=>fP e fun n es=>es.isEmpty&&((c.P.cl[k]?).any (fun q=>q.1==n)&&fq c.sc n)
 | .comp x v it,e=>ng e fun el gs sc=>Bk gs fun t i fs=>cN t fun n =>
  c.vars[v]?==some n&&uS sc [n]&&i5 i&&aK x&&okX c it i&&okX ⟨sc,c.vars,c.P⟩ x el&&fs.isEmpty
noncomputable def okXs (c:Cx):List X→List Expr→Bool
 | [],es=>es.isEmpty
 | x :: xs,es=>match es with | e :: r=>bZ e&&okX c x e&&okXs c xs r | []=>false
end
theorem zI {x:X}{m:X→Prop}(h:qG x=true) (k:m .non):m x:=X.non.elim (motive_1:=m) x (eq_of_beq h) k
theorem l7 {c:Cx}{es:List Expr}{m:List Expr→Prop}(h:okXs c [] es=true) (k:m []):m es:=cO h k
theorem iA {c:Cx}{x:X}{xs:List X}{es:List Expr}{m:List Expr→Prop}(h:okXs c (x :: xs) es=true) (k:∀ e r,bZ e=true→okX c x e=true→okXs c xs r=true→m (e :: r)):m es:=by
 cases es with
 | nil=>injection h
 | cons e r=>exact aI h fun a b d=>k e r a b d
theorem rr {c:Cx}{x:X}{e:Expr}(h1:bZ e=true) (h2:okX c x e=true):okXs c [x] [e]=true:=by
 show (bZ e&&okX c x e&&true)=true
 rw [h1,h2];rfl
noncomputable def AOk (n:Nat) (A:Around):Prop:=A.handled=none∧A.depth+n≤900∧A.units+4*n+100≤cLine
theorem AOk.mono {n m:Nat}{A:Around}(h:AOk n A) (l:m≤n):AOk m A:=⟨h.1,by have:=h.2.1;lia,by have:=h.2.2;lia⟩
theorem AOk.deeper {n:Nat}{A:Around}{env:Env}(h:AOk (n+1) A):AOk n (A.deeper env):=⟨h.1,by have:=h.2.1;show A.depth+1+n≤900;lia,by have:=h.2.2;show A.units+3+4*n+100≤cLine;lia⟩
noncomputable def bw (h₀:Heap) (A:Around) (φ:Phi) (h:Heap):Prop:=∃ fs,A.frames=some fs∧∀ e∈fs,e.scope.kind≠.module∧∃ L o,e.frame=some L∧h₀.get? L=none∧L∉au φ∧h.get? L=some o∧dO o
structure Stp (pu:Bool) (φ:Phi) (h:Heap) (φ':Phi) (h':Heap):Prop where
 grow:bM φ h φ'
 keep:bS φ [] h h'
 pu:pu=true→φ'=φ∧Ext h h'
section
variable {N:aH}{prog:Program}{w:World}{h₀ h h':Heap}{σ σ' σ₂:St}{φ φ' φ₂:Phi}{env:Env}{vars:List Str}{ρ:Rho}{A:Around}{E:Value→Shared→Prop}{s:Shared}
theorem Stp.refl (p:Bool) (φ:Phi) (h:Heap):Stp p φ h φ h:=⟨.refl _ _,(Ext.refl h).keep,fun zz=>⟨rfl,.refl h⟩⟩
theorem bS.trans {a b:Phi}{ow:List Addr}{h h' h'':Heap}(G:bM a h b) (x:bS a ow h h') (y:bS b ow h' h''):bS a ow h h'':=fun c o e n m =>
 let ⟨_,e1,a1⟩:=x _ _ e n m;let ⟨_,e2,a2⟩:=y _ _ e1 (G.notmem e n) m;⟨_,e2,a1.trans a2⟩
theorem bS.trans0 {a b:Phi}{h h' h'':Heap}(G:bM a h b) (x:bS a [] h h') (y:bS b [] h' h''):bS a [] h h'':=bS.trans G x y
theorem Stp.trans {p q:Bool}{h'':Heap}(x:Stp p φ h φ' h') (R:Rel N w h₀ σ φ' h') (y:Stp q φ' h' φ₂ h''):Stp (p&&q) φ h φ₂ h'' :=
 ⟨x.grow.trans x.keep (fun zz m=>nomatch m) y.grow fun m hm=>R.mut_some m (x.grow.mem hm),x.keep.trans0 x.grow y.keep,fun e=>by
  rw [Bool.and_eq_true] at e
  obtain ⟨a,b⟩:=x.pu e.1;obtain ⟨c,d⟩:=y.pu e.2
  exact ⟨c.trans a,b.trans d⟩⟩
theorem Stp.of {p q:Bool}(x:Stp p φ h φ' h') (l:q=true→p=true):Stp q φ h φ' h':=⟨x.grow,x.keep,fun e=>x.pu (l e)⟩
theorem Stp.rep {p:Bool}{v:V}{u:Value}(x:Stp p φ h φ' h') (r:Rep w φ h v u):Rep w φ' h' v u:=r.mono x.grow x.keep (.nil _)
theorem Stp.fra {p:Bool}(x:Stp p φ h φ' h') (F:Fra w h₀ φ env vars ρ h):Fra w h₀ φ' env vars ρ h':=F.keep0 x.grow x.keep
theorem d8.dict {o o':Obj}(a:d8 o o') (d:dO o):dO o':=by
 obtain ⟨es,n,d⟩:=d
 rcases a with rfl | ⟨_,sl,rfl⟩<;>exact ⟨es,n,d⟩
theorem bw.keep {ow:List Addr}(f:bw h₀ A φ h) (G:bM φ h φ') (K:bS φ ow h h') (ap:∀ b∈ow,∀ o,h.get? b=some o→dO o→∃ o',h'.get? b=some o'∧dO o'):bw h₀ A φ' h':=by
 obtain ⟨fs,a,b⟩:=f
 refine ⟨fs,a,fun e m=>?_⟩
 obtain ⟨k,L,o,c,d,nm,g,i⟩:=b e m
 by_cases q:L∈ow
 ·obtain ⟨o',e',d'⟩:=ap L q o g i
  exact ⟨k,L,o',c,d,G.notmem g nm,e',d'⟩
 ·obtain ⟨o',e',al⟩:=K L o g nm q
  exact ⟨k,L,o',c,d,G.notmem g nm,e',al.dict i⟩
theorem Stp.fr {p:Bool}(x:Stp p φ h φ' h') (f:bw h₀ A φ h):bw h₀ A φ' h':=f.keep x.grow x.keep fun zz m=>nomatch m
theorem bw.ext (f:bw h₀ A φ h) (x:Ext h h'):bw h₀ A φ h':=f.keep (ow:=[]) (.refl _ _) x.keep fun zz m=>nomatch m
noncomputable abbrev Aft (N:aH) (w:World) (h₀:Heap) (pu:Bool) (σ':St) (v:V) (φ:Phi) (s:Shared) (Q:Value→Shared→Prop):Prop :=
 ∀ φ' h' tk u,Stp pu φ s.heap φ' h'→Rel N w h₀ σ' φ' h'→Rep w φ' h' v u→Q u { s with heap:=h',toks:=tk}
noncomputable abbrev zJ (N:aH) (w:World) (h₀:Heap) (pu:Bool) (σ':St) (vs:List V) (φ:Phi) (s:Shared) (Q:List Value→Shared→Prop):Prop :=
 ∀ φ' h' tk us,Stp pu φ s.heap φ' h'→Rel N w h₀ σ' φ' h'→Reps w φ' h' vs us→Q us { s with heap:=h',toks:=tk}
noncomputable abbrev iT (N:aH) (w:World) (h₀:Heap) (pu:Bool) (σ':St) (b:Bool) (φ:Phi) (s:Shared) (Q:Bool→Shared→Prop):Prop :=
 ∀ φ' h' tk,Stp pu φ s.heap φ' h'→Rel N w h₀ σ' φ' h'→Q b { s with heap:=h',toks:=tk}
noncomputable def dU (prog:Program) (w:World) (N:aH) (h₀:Heap) (n:Nat) (f:Value) (M:ib):Prop :=
 ∀ (A:Around) (s:Shared) (σ σ':St) (φ:Phi) (xs:List V) (vs:List Value) (r:V) (R:Result→Shared→Prop),
  AOk n A→bw h₀ A φ s.heap→Rel N w h₀ σ φ s.heap→Reps w φ s.heap xs vs→M xs σ=some (r,σ')→Aft N w h₀ false σ' r φ s (fun u=>R (.ok (.ret u)))→codeAny (model prog w) A (.call f ⟨vs,[]⟩) R s
noncomputable def cZ (prog:Program) (w:World) (N:aH) (h₀:Heap) (n:Nat) (f:Value) (M:List V→Option V):Prop :=
 ∀ (A:Around) (s:Shared) (σ:St) (φ:Phi) (xs:List V) (vs:List Value) (r:V) (R:Result→Shared→Prop),
  AOk n A→bw h₀ A φ s.heap→Rel N w h₀ σ φ s.heap→Reps w φ s.heap xs vs→M xs=some r→Aft N w h₀ true σ r φ s (fun u=>R (.ok (.ret u)))→codeAny (model prog w) A (.call f ⟨vs,[]⟩) R s
theorem dU.mono {n m:Nat}{f:Value}{M:ib}(x:dU prog w N h₀ n f M) (l:n≤m):dU prog w N h₀ m f M:=fun A s σ σ' φ xs vs r R a=>x A s σ σ' φ xs vs r R (a.mono l)
theorem cZ.mono {n m:Nat}{f:Value}{M:List V→Option V}(x:cZ prog w N h₀ n f M) (l:n≤m):cZ prog w N h₀ m f M:=fun A s σ φ xs vs r R a=>x A s σ φ xs vs r R (a.mono l)
theorem dU.call {n:Nat}{f:Value}{M:ib}(x:dU prog w N h₀ n f M) (A:Around) (E:Value→Shared→Prop) (s:Shared) (σ σ':St) (φ:Phi) (xs:List V) (vs:List Value) (r:V) (Q:Value→Shared→Prop)
 (a:AOk n A) (fr:bw h₀ A φ s.heap) (R:Rel N w h₀ σ φ s.heap) (rs:Reps w φ s.heap xs vs) (e:M xs σ=some (r,σ')) (h:Aft N w h₀ false σ' r φ s Q):wpAny (model prog w) A (PySem.call f vs) Q E s :=
 wpAny_call (x A s σ σ' φ xs vs r _ a fr R rs e h)
theorem cZ.call {n:Nat}{f:Value}{M:List V→Option V}(x:cZ prog w N h₀ n f M) (A:Around) (E:Value→Shared→Prop) (s:Shared) (σ:St) (φ:Phi) (xs:List V) (vs:List Value) (r:V) (Q:Value→Shared→Prop)
 (a:AOk n A) (fr:bw h₀ A φ s.heap) (R:Rel N w h₀ σ φ s.heap) (rs:Reps w φ s.heap xs vs) (e:M xs=some r) (h:Aft N w h₀ true σ r φ s Q):wpAny (model prog w) A (PySem.call f vs) Q E s :=
 wpAny_call (x A s σ φ xs vs r _ a fr R rs e h)
noncomputable def dW (h₀:Heap) (ga ba:Addr) (n:Str) (u:Value):Prop:=∃ mg mb,h₀.Ns ga mg∧h₀.Ns ba mb∧(mg n=some u∨(mg n=none∧mb n=some u))
noncomputable def o8 (h:Heap) (a:Addr):Prop:=∃ o fd,h.get? a=some o∧o.data = .func fd
noncomputable abbrev nh:List Value:=[.type "Exception",.type "BaseException",.type "object"]
noncomputable def rt (h:Heap) (C:Addr):Prop:=∃ nm q NS bs hdct sn sub ab col dd k0 k1 k2 k3 k5 mN,h.get? C=some (excClassObj nm q C NS bs nh hdct sn sub ab col dd k0 k1 k2 k3 k5 "Exception.__new__")∧h.Ns NS mN∧mN "__init__"=none
structure bD (G:Sg) (prog:Program) (w:World) (N:aH) (h₀:Heap) (K:Frag) (ga ba:Addr) (n:Nat):Prop where
 an:∀ i,G.P.an i=N.an i
 X:K.In h₀
 gl:∀ (i:Nat) (g:Str×V),G.P.gls[i]? = some g→∃ u,dW h₀ ga ba g.1 u∧Rep w ⟨[],[]⟩ h₀ g.2 u
 bi:∀ b:Bi,dW h₀ ga ba b.nm (.builtin b.id)
 rg:dW h₀ ga ba "range" (.type "range")
 cat:∀ (k:Nat) (q:Str×Addr×Str×V),G.P.cat[k]? = some q→∃ mc u,dW h₀ ga ba q.1 (.ref q.2.1)∧readsIn K q.2.1 mc=true∧findCls K (.ref q.2.1) mc q.2.2.1=some (.val u)∧handedIn u=true∧Rep w ⟨[],[]⟩ h₀ q.2.2.2 u
 pc:∀ C∈G.P.cs,fO N K C G.P.ats
 ro:∀ x fs,G.P.ro x=some fs→∃ C d,fO N K C G.P.ats∧j4 N w ⟨[],[]⟩ h₀ (x,d) (.inst C fs)
 ex:∀ (k:Nat) (q:Str×Addr),G.P.ex[k]? = some q→dW h₀ ga ba q.1 (.ref q.2)∧rt h₀ q.2
 exm:∀ (k j:Nat) (q r:Str×Addr),G.P.ex[k]? = some q→G.P.ex[j]? = some r→exmOne K (.ref q.2) (.ref r.2)=some (k==j)
 fn:∀ (f:Nat) (nm:Str),G.P.fns[f]? = some nm→∃ a,dW h₀ ga ba nm (.ref a)∧o8 h₀ a∧cZ prog w N h₀ n (.ref a) (G.Ψ f)
 mt:∀ C m f,G.P.meth C m=some f→∃ a,(∀ nm,plainGet K C nm=true)∧findIn K (.ref C) (N.an m)=some (some (.ref a))∧typeIn K (.ref a)=some (.type "function")∧o8 h₀ a∧dU prog w N h₀ n (.ref a) (G.Φ f)
 cl:∀ (k:Nat) (q:Str×Addr×Nat),G.P.cl[k]? = some q→dW h₀ ga ba q.1 (.ref q.2.1)∧∃ fI,makesIn K q.2.1=true∧keepIn K (.ref q.2.1)=true∧findIn K (.ref q.2.1) "__init__"=some (some (.ref fI))∧typeIn K (.ref fI)=some (.type "function")∧∃ k,k+1≤n∧dU prog w N h₀ k (.ref fI) (G.Φ q.2.2)
theorem Ns.ext {h h':Heap}{a:Addr}{m}(x:h.Ns a m) (e:Ext h h'):h'.Ns a m:=Ns.at1 x fun zz y=>e _ _ y
theorem dW.load {ga ba:Addr}{n:Str}{u:Value}{Q:Value→Shared→Prop}(g:dW h₀ ga ba n u) (e:Ext h₀ s.heap) (hg:env.globals=ga) (hb:env.builtins=ba) (h:Q u s):wpAny (model prog w) A (loadGlobal env n) Q E s:=by
 obtain ⟨mg,mb,a,b,c⟩:=g
 subst hg hb
 rcases c with c | ⟨c,d⟩
 ·exact loadGlobal_global (Ns.ext a e) c h
 ·exact loadGlobal_builtin (Ns.ext a e) c (Ns.ext b e) d h
theorem B3 {sc:Scope}{n:Str}(h:fq sc n=true):sc.names.lookup n=some .globalImplicit∧(n==("__debug__":Str))=false:=by
 unfold fq at h
 rw [Bool.and_eq_true,beq_iff_eq,Bool.not_eq_true'] at h
 exact h
theorem dW.name {ga ba:Addr}{n:Str}{u:Value}{pos:Pos}{Q:Value→Shared→Prop}(g:dW h₀ ga ba n u) (e:Ext h₀ s.heap) (hg:env.globals=ga) (hb:env.builtins=ba) (hk:env.scope.kind = .function)
 (ok:fq env.scope n=true) (h:Q u s):wpAny (model prog w) A (eval (.Name n pos) env) Q E s:=by
 obtain ⟨a,b⟩:=B3 ok
 exact Name_function_global hk a (g.load e hg hb h) b
theorem rA {v:V}{u:Value}(R:Rel N w h₀ σ φ h) (r:Rep w ⟨[],[]⟩ h₀ v u):Rep w φ h v u :=
 r.mono (own:=[]) ⟨φ.objs,φ.bad,rfl,rfl,(fun p hp=>R.apart _ (List.mem_append_left _ (List.mem_map_of_mem hp))),fun b hb=>R.apart b (aao _ hb)⟩ (Ext.keep R.base) (.nil _)
theorem fv {f:Value}{ts:List (Bool×Sem Value)}{Q:Args→Shared→Prop}(hp:ts.all (fun t=>!t.1)=true) (h:wpAny (model prog w) A (spliced ts) (fun vs s'=>Q ⟨vs,[]⟩ s') E s):wpAny (model prog w) A (evalArgs f true ts []) Q E s:=by
 cases ts with
 | nil =>
  unfold evalArgs
  refine wpAny_bind (wpAny_mono h (fun vs s' h'=>?_) fun zz zz x=>x)
  exact wpAny_bind (wpAny_pure (wpAny_holding (wpAny_bind (wpAny_pure (wpAny_bind (wpAny_pure (wpAny_pure h')))))))
 | cons t ts =>
  obtain ⟨b,x⟩:=t
  simp only [List.all_cons,Bool.and_eq_true,Bool.not_eq_true'] at hp
  obtain ⟨rfl,_⟩:=hp
  exact evalArgs_plain h
noncomputable def aV (es:List Expr) (env:Env):List (Bool×Sem Value):=es.map fun e=>(false,eval e env)
theorem B4 {e:Expr}{r:List Expr}{env:Env}(h:bZ e=true):starEach (e :: r) env=(false,eval e env) :: starEach r env:=by
 cases e<;>first | rfl | injection h
theorem fw {pos:Pos}{env:Env} : ∀ {es:List Expr},es.all bZ=true→backTo pos (starEach es env)=aV es env
 | [],_=>rfl
 | e :: r,h=>by
  rw [List.all_cons,Bool.and_eq_true] at h
  have ih:=fw (pos:=pos) (env:=env) h.2
  rw [B4 h.1]
  show (false,_) :: backTo pos (starEach r env)=_
  rw [ih];rfl
theorem eJ (es:List Expr) (env:Env):(aV es env).all (fun t=>!t.1)=true:=by
 simp [aV]
theorem jV (es:List Expr) (env:Env):(aV es env).any (fun t=>t.1)=false:=by
 simp [aV]
end
section
variable {N:aH}{prog:Program}{w:World}{h₀ h h':Heap}{σ σ' σ₂:St}{φ φ' φ₂:Phi}{env:Env}{vars:List Str}{ρ:Rho}{A:Around}{E:Value→Shared→Prop}{s:Shared}{G:Sg}{K:Frag}{ga ba:Addr}{n:Nat}
theorem xY (o:Cop) {a b:V}{r:Bool}{va vb:Value}{Q:Value→Shared→Prop}(hu:A.units+3<cLine) (e:zF o a b=some r) (ra:Rep w φ s.heap a va) (rb:Rep w φ s.heap b vb) (h:∀ k,Q (.bool r) { s with toks:=k}) :
 wpAny (model prog w) A (compareOp o.py va vb) Q E s:=by
 cases o with
 | eq=>exact FJ (by omega) e ra rb (h _)
 | ne=>obtain ⟨r',e',rfl⟩:=map_some e;exact FK (by omega) e' ra rb (h _)
 | lt=>obtain ⟨x,y,rfl,rfl,e⟩:=eZ e;obtain rfl:=aaa e;exact FL ra rb (h _)
 | le=>obtain ⟨x,y,rfl,rfl,e⟩:=eZ e;obtain rfl:=aaa e;exact FM ra rb (h _)
 | gt=>obtain ⟨x,y,rfl,rfl,e⟩:=eZ e;obtain rfl:=aaa e;exact FN ra rb (h _)
 | ge=>obtain ⟨x,y,rfl,rfl,e⟩:=eZ e;obtain rfl:=aaa e;exact FP ra rb (h _)
 | isin=>exact FQ hu e ra rb h
 | notin=>obtain ⟨r',e',rfl⟩:=map_some e;exact zC hu e' ra rb h
theorem DP {sl:Expr}(h:uR sl=false) (o v:Value):subscripted sl false o v=operate [o,v] (getItem o v):=by
 cases sl<;>first | rfl | injection h
set_option tactic.hygienic true in
theorem o9 {o:Expr}{name:Str}(h:j9 o=true):attributeBase o name env (eval o env)=eval o env:=by
 cases o<;>try rfl
 rename_i f es ks p
 cases f<;>try rfl
 cases es<;>try rfl
 cases ks<;>try rfl
 injection h
theorem ka {o:Expr}{name:Str}{apos pos:Pos}{args:List Expr}{Q:Value→Shared→Prop}(hbase:j9 o=true) (hst:args.all bZ=true) (hlen:args.length<29) (hline:(apos.endLine==pos.line)=true)
 (h:wpAny (model prog w) A (eval o env) (fun ov s₁=>∀ pl,wpAny (model prog w) A (getMethod ov name pl) (fun fx s₂=>wpAny (model prog w) A (callWith pos fx.1 fx.2 (aV args env) []) Q E s₂) E s₁) E s) :
 wpAny (model prog w) A (eval (.Call (.Attribute o name apos) args [] pos) env) Q E s:=by
 rw [arm_eval_Call,o9 hbase,fw hst]
 refine wpAny_bind (wpAny_mono h (fun ov s₁ h₁=>?_) fun zz zz e=>e)
 refine wpAny_bind (wpAny_standAt ?_)
 have hform:methodCallForm (args.length+([]:List Keyword).length) (aV args env) (backToKw pos (keywordEach [] env))=true:=by
  unfold methodCallForm
  rw [eJ]
  exact decide_eq_true (Nat.lt_succ_of_lt hlen)
 have hpos:methodCallPos true o env apos pos=pure pos:=by unfold methodCallPos;simp [hline]
 unfold methodCall
 rw [hform]
 exact wpAny_bind (wpAny_holding (wpAny_mono (h₁ _) (fun fx s₂ h₂=>wpAny_bind (wpAny_of_eq hpos h₂)) fun zz zz x=>x))
theorem wd {pos:Pos}{id:String}{first:List Value}{es:List Expr}{Q:Value→Shared→Prop}
 (h:wpAny (model prog w) A (spliced (aV es env)) (fun vs s₁=>wpAny (model prog w) A (call (.builtin id) (first++vs)) Q E s₁) E s):wpAny (model prog w) A (callWith pos (.builtin id) first (aV es env) []) Q E s :=
 callWith_builtin (jV _ _) (fv (eJ _ _) h)
theorem FT {pos:Pos}{T:String}{es:List Expr}{Q:Value→Shared→Prop}
 (h:wpAny (model prog w) A (spliced (aV es env)) (fun vs s₁=>wpAny (model prog w) A (call (.type T) vs) Q E s₁) E s):wpAny (model prog w) A (callWith pos (.type T) [] (aV es env) []) Q E s :=
 callWith_excType (jV _ _) (fv (eJ _ _) h)
theorem Bl {pos:Pos}{a:Addr}{first:List Value}{es:List Expr}{Q:Value→Shared→Prop}(f:o8 h₀ a)
 (h:wpAny (model prog w) A (spliced (aV es env)) (fun vs s₁=>Ext h₀ s₁.heap∧wpAny (model prog w) A (call (.ref a) (first++vs)) Q E s₁) E s):wpAny (model prog w) A (callWith pos (.ref a) first (aV es env) []) Q E s:=by
 obtain ⟨o,fd,e,d⟩:=f
 exact callWith_function (fv (eJ _ _) (wpAny_mono h (fun vs s₁ h₁=>⟨⟨h₁.1 _ _ e,d⟩,h₁.2⟩) fun zz zz x=>x))
theorem rB {x:Str}{p pos:Pos}{es:List Expr}{Q:Value→Shared→Prop}(hst:es.all bZ=true)
 (h:wpAny (model prog w) A (eval (.Name x p) env) (fun f s₁=>wpAny (model prog w) A (callWith pos f [] (aV es env) []) Q E s₁) E s):wpAny (model prog w) A (eval (.Call (.Name x p) es [] pos) env) Q E s:=by
 refine wpAny_Call_NameR ?_
 rw [fw hst];exact h
theorem zK (m:Sm) {x:V}{r:V}{y:V}{v:Value}{l:List Nat}{pl:Sem Bool}{Q:Value×List Value→Shared→Prop}(rx:Rep w φ s.heap (.str l) v) (h:Q (.builtin m.id,[v]) s):wpAny (model prog w) A (getMethod v m.name pl) Q E s:=by
 simp only [dB] at rx
 obtain ⟨ok,t,rfl⟩:=rx
 cases m
 ·have h:Q (.builtin "str.join",[.str (txt l) t]) s:=h
  show wpAny _ _ (getMethod _ ("join":Str) pl) _ _ _
  with_reducible exact GM.join h
 ·have h:Q (.builtin "str.startswith",[.str (txt l) t]) s:=h
  show wpAny _ _ (getMethod _ ("startswith":Str) pl) _ _ _
  with_reducible exact GM.startswith h
 ·have h:Q (.builtin "str.endswith",[.str (txt l) t]) s:=h
  show wpAny _ _ (getMethod _ ("endswith":Str) pl) _ _ _
  with_reducible exact GM.endswith h
theorem xZ {C:Addr}{fs:ah}{m f k:Nat}{p:Addr×Addr}{pl:Sem Bool}{Q:Value×List Value→Shared→Prop}(B:bD G prog w N h₀ K ga ba n) (R:Rel N w h₀ σ φ s.heap) (hk:σ[k]? = some (.inst C fs)) (hp:φ.objs[k]? = some p) (hn:co fs m=none) (hm:G.P.meth C m=some f)
 (h:∀ a,o8 h₀ a→dU prog w N h₀ n (.ref a) (G.Φ f)→Q (.ref a,[.ref p.1]) s):wpAny (model prog w) A (getMethod (.ref p.1) (N.an m) pl) Q E s:=by
 obtain ⟨a,g,hf,ht,hI,hC⟩:=B.mt C m f hm
 obtain ⟨es,q,hd,fr,I⟩:=o7 (R.obs k _ p hk hp)
 have X:K.In s.heap:=B.X.keeps R.base
 refine method_fn X I (plainGet_of (g (N.an m))).1 (plainGet_of (g (N.an m))).2 hf ht ?_ (h a hI hC)
 show (lookIn (N.an m) (dictOf es q)).map _=_
 rw [lookIn_dict]
 have:getL (N.an m) es=some none:=by
  unfold getL
  have none:es.find? (·.key.isStr (N.an m))=none:=by
   clear hd I hk
   induction fs generalizing es with
   | nil=>cases fr;rfl
   | cons x fs ih =>
    obtain ⟨k',v⟩:=x
    obtain ⟨e,r,rfl,⟨t,ek⟩,_,_,fr⟩:=fr
    unfold co at hn
    rw [List.find?_cons] at hn
    by_cases c:k'=m
    ·subst c;simp at hn
    ·have c':(k'==m)=false:=beq_eq_false_iff_ne.mpr c
     rw [c'] at hn
     rw [List.find?_cons,ek,gh,decide_eq_false (fun z=>c (N.inj _ _ z))]
     exact ih hn _ fr
  rw [none,Bj fr];rfl
 rw [this];rfl
end
structure Cxt (G:Sg) (c:Cx) (env:Env) (ga ba:Addr):Prop where
 P:c.P=G.P
 sc:env.scope=c.sc
 ga:env.globals=ga
 ba:env.builtins=ba
 nd:c.vars.Nodup
 dot:(".0":Str)∉c.vars
section
variable {N:aH}{prog:Program}{w:World}{h₀ h h' h₁:Heap}{σ σ' σ₁ σ₂:St}{φ φ' φ₁ φ₂:Phi}{env:Env}{vars:List Str}{ρ:Rho}{A:Around}{E:Value→Shared→Prop}{s:Shared}{G:Sg}{K:Frag}{ga ba:Addr}{n:Nat}{c:Cx}
theorem Aft.fin {p pu:Bool}{v:V}{Q:Value→Shared→Prop}{tk:Tok}(h:Aft N w h₀ pu σ' v φ s Q) (S:Stp p φ s.heap φ₁ h₁) (R:Rel N w h₀ σ' φ₁ h₁) (le:pu=true→p=true):bh w φ₁ { s with heap:=h₁,toks:=tk} v Q:=fun v' h' k x r =>
 h φ₁ h' k v' ⟨S.grow,S.keep.trans0 S.grow x.keep,fun e=>let ⟨a,b⟩:=S.pu (le e);⟨a,b.trans x⟩⟩ (R.ext x) r
theorem Aft.then {p q pu:Bool}{v:V}{Q:Value→Shared→Prop}{tk:Tok}(h:Aft N w h₀ pu σ' v φ s Q) (S:Stp p φ s.heap φ₁ h₁) (R:Rel N w h₀ σ₁ φ₁ h₁) (le:pu=true→p=true∧q=true):Aft N w h₀ q σ' v φ₁ { s with heap:=h₁,toks:=tk} Q:=fun φ' h' tk u S' R' r =>
 h φ' h' tk u ((S.trans R S').of fun e=>by rw [(le e).1,(le e).2];rfl) R' r
theorem uOk {A:Around}(a:AOk n A):A.units+3<cLine:=by have:=a.2.2;lia
theorem kb {M:Model}{v:V}{b:Bool}{u:Value}{Q:Bool→Shared→Prop}(e:ck v=some b) (r:Rep w φ s.heap v u) (h:Q b s):wpAny M A (truthy u) Q E s:=by
 cases v<;>simp only [ck,reduceCtorEq,Option.some.injEq] at e
 subst e
 rw [dG] at r;subst r
 exact wpAny_truthy_bool h
theorem rC (b:Bool) (h:Heap):Rep w φ h (.bool b) (.bool b):=by rw [dG]
theorem zL {C:Addr}{fs:ah}{a:Nat}{p:Addr×Addr}{v:V}{expr:Bool}{Q:Value→Shared→Prop}(X:K.In s.heap) (x:Ext h₀ s.heap) (R:Rel N w h₀ σ φ s.heap) {as:List Nat}(P:fO N K C as) (ha:a∈as) (o:j4 N w ⟨[],[]⟩ h₀ p (.inst C fs)) (e:co fs a=some v) (h:bh w φ s v Q) :
 wpAny (model prog w) A (getAttr (.ref p.1) (N.an a) expr) Q E s:=by
 obtain ⟨l,c,es,n,d,f⟩:=o
 have G:bM ⟨[],[]⟩ h₀ φ:=⟨φ.objs,φ.bad,rfl,rfl,fun q hq=>R.apart _ (List.mem_append_left _ (List.mem_map_of_mem hq)),fun b hb=>R.apart b (aao _ hb)⟩
 exact xS X P ha ⟨l,x _ _ c,es,n,x _ _ d,f.mono G (x.keep (own:=[])) (.nil _)⟩ e h
theorem uX {v o:V}{a:Nat}{u:Value}{expr:Bool}{Q:Value→Shared→Prop}(B:bD G prog w N h₀ K ga ba n) (R:Rel N w h₀ σ φ s.heap) (e:cL G.P σ o a=some v) (r:Rep w φ s.heap o u) (h:bh w φ s v Q) :
 wpAny (model prog w) A (getAttr u (N.an a) expr) Q E s:=by
 cases o with
 | obj k =>
  have e:(match σ[k]? with
   | some (.inst c fs)=>if (G.P.cs.contains c&&G.P.ats.contains a)=true then co fs a else none
   | none=>none)=some v:=e
  rw [hS] at r
  obtain ⟨p,hp,rfl⟩:=r
  cases hk:σ[k]? with
  | none=>rw [hk] at e;injection e
  | some ob =>
   cases ob with
   | inst C fs =>
    rw [hk] at e
    by_cases q:(G.P.cs.contains C&&G.P.ats.contains a)=true
    ·have e:=(if_pos q).symm.trans e
     have q:=bn q
     exact xS (B.X.keeps R.base) (B.pc C (aak.mp q.1)) (aak.mp q.2) (R.obs k _ p hk hp) e h
    ·exact bH ((if_neg q).symm.trans e)
 | g y =>
  rw [vX] at r;subst r
  by_cases q:G.P.ats.contains a=true
  ·cases u with
   | ref x =>
    have e:(if G.P.ats.contains a=true then (G.P.ro x).bind fun fs=>co fs a else none)=some v:=e
    rw [if_pos q] at e
    obtain ⟨fs,e1,e⟩:=bind_some e
    obtain ⟨C,d,pc,ob⟩:=B.ro x fs e1
    exact zL (p:=(x,d)) (B.X.keeps R.base) R.base R pc (aak.mp q) ob e h
   | _=>exact bH ((if_pos q).symm.trans e)
  ·exact bH ((if_neg q).symm.trans e)
 | _=>exact bH e
theorem uY {v:V}{o:Option Int}{u:Value}{h:Heap}(e:qD v=some o) (r:Rep w φ h v u):IsPart u o:=by
 cases v<;>simp only [qD,reduceCtorEq,Option.some.injEq] at e
 ·subst e;rw [eY] at r;subst r;exact .none
 ·subst e;rw [cW] at r;obtain ⟨t,rfl⟩:=r;exact .int _ _
theorem gi:∀ {xs:List X}{es:List Expr},okXs c xs es=true→es.all bZ=true∧es.length=xs.length
 | [],es,h=>by
  cases es with
  | nil=>exact ⟨rfl,rfl⟩
  | cons _ _=>injection h
 | x :: xs,es,h=>by
  cases es with
  | nil=>injection h
  | cons e r =>
   have h:=ew h
   obtain ⟨a,b⟩:=gi h.2
   exact ⟨by rw [List.all_cons,h.1.1,a];rfl,by simp [b]⟩
theorem uZ:∀ {xs:List X}{σ σ':St}{vs:List V},evs G ρ σ xs=some (vs,σ')→vs.length=xs.length
 | [],_,_,_,e=>by (injection e with hE;injection hE with hA hB;subst hA;subst hB);rfl
 | x :: xs,_,_,_,e=>by
  obtain ⟨⟨_,_⟩,h1,e⟩:=bind_some e;obtain ⟨⟨_,_⟩,h2,e⟩:=map_some e;(injection e with hE;subst hE)
  simp [uZ h2]
noncomputable def we (prog:Program) (w:World) (G:Sg) (N:aH) (h₀:Heap) (K:Frag) (ga ba:Addr) (n:Nat):Prop:=∀ (A:Around) (E:Value→Shared→Prop) (s:Shared) (σ σ':St) (φ:Phi) (k:Nat) (v:V) (q:Str×Addr×Nat) (Q:Value→Shared→Prop),
 AOk n A→bw h₀ A φ s.heap→Rel N w h₀ σ φ s.heap→G.P.cl[k]? = some q→zG G k σ=some (v,σ')→Aft N w h₀ false σ' v φ s Q→wpAny (model prog w) A (call (.ref q.2.1) []) Q E s
end
open Builtin.Range in
theorem rD (a b:Int):rangeSize a b 1=((b - a).toNat:Int):=by
 unfold rangeSize
 rw [if_pos (by decide)]
 split
 ·rw [Int.ediv_one];omega
 ·lia
open Builtin.Range in
theorem pd (a b:Int):rangeSize a b (-1)=((a - b).toNat:Int):=by
 unfold rangeSize
 rw [if_neg (by decide)]
 split
 ·rw [show -(-1:Int)=1 from rfl,Int.ediv_one];omega
 ·lia
section
variable {N:aH}{prog:Program}{w:World}{h₀ h h' h₁:Heap}{φ:Phi}{A:Around}{E:Value→Shared→Prop}{s:Shared}
theorem gj {o:Obj}{vs:Array Value}(d:o.data = .fields vs):¬ dO o:=fun ⟨_,_,q⟩=>by rw [d] at q;injection q
structure Src (prog:Program) (w:World) (A:Around) (φ:Phi) (h₁:Heap) (I:Addr) (its:List V) (h₂:Heap) (fp:List Addr) (P:Nat→Value→Prop) (St:Nat→Heap→Prop):Prop where
 walks:Walks prog w A I fp [I] its.length P St
 start:St 0 h₂
 new:h₁.get? I=none
 fps:∀ b∈fp,b=I∨(∃ o,h₁.get? b=some o∧b∉au φ∧¬ gH o)
 item:∀ i v x,P i v→its[i]? = some x→Rep w φ h₁ x v
 ext:Ext h₁ h₂
 size:I<h₂.objs.size
 few:its.length≤big
 there:∃ o,h₂.get? I=some o
 stays:∀ i h,St i h→∃ o,h.get? I=some o∧gH o∧¬ dO o
theorem kS (h:Heap) (o:Obj):h.objs.size<(h.push o).objs.size:=by rw [Heap.size_push];exact Nat.lt_succ_self _
theorem dj (h:Heap):h.get? h.objs.size=none:=by
 cases e:h.get? h.objs.size with
 | none=>rfl
 | some o=>exact absurd (Heap.lt_size e) (Nat.lt_irrefl _)
theorem Reps.at {xs:List V}{vs:List Value}(r:Reps w φ h xs vs) {i:Nat}{x:V}{v:Value}(a:xs[i]? = some x) (b:vs[i]? = some v):Rep w φ h x v:=by
 obtain ⟨v',e,q⟩:=r.get a
 rw [b] at e;obtain rfl:=aaa e;exact q
noncomputable abbrev qH (prog:Program) (w:World) (A:Around) (φ:Phi) (its:List V) (Q:Value→Shared→Prop) (s:Shared):Prop:=∀ I h₂ fp P St,Src prog w A φ s.heap I its h₂ fp P St→Q (.ref I) { s with heap:=h₂}
theorem zM {xs:List V}{u:Value}{Q:Value→Shared→Prop}(hh:A.handled=none) (r:Rep w φ s.heap (.list xs) u) (h:qH prog w A φ xs Q s):wpAny (model prog w) A (pyIter u) Q E s :=
 dH (m:=fun u=>wpAny (model prog w) A (pyIter u) Q E s) r fun a vs n hl m ho q=>by
  have hL:s.heap.IsList a vs.toArray:=⟨_,ho,rfl,_,rfl⟩
  have W:=Walks.list (prog:=prog) (w:=w) hh s.heap.objs.size a (Nat.ne_of_lt (Heap.lt_size ho)) vs.toArray
  rw [show vs.toArray.size=xs.length from List.size_toArray.trans q.len] at W
  exact wpAny_pyIter_list hL (h _ _ _ _ _ ⟨W,⟨⟨_,Heap.get?_push_size _ rfl,rfl,rfl⟩,hL.push _⟩,dj _,fun b hb=>(List.mem_cons.mp hb).elim .inl fun hb=>.inr ⟨_,aai.mp hb▸ho,aai.mp hb▸m,gf⟩,
   fun i v x p e=>q.at e (List.getElem?_toArray.symm.trans p),Ext.push _ _,kS _ _,hl,⟨_,Heap.get?_push_size _ rfl⟩,fun i h st=>let ⟨o,a,b,d⟩:=st.1;⟨o,a,.inr (.inr ⟨_,d,by rw [b];decide⟩),gj d⟩⟩)
theorem B5 (l:List Nat) (i:Nat):(txt l).cps[i]? = l[i]?:=List.getElem?_toArray
theorem rE {l:List Nat}{u:Value}{Q:Value→Shared→Prop}(hh:A.handled=none) (r:Rep w φ s.heap (.str l) u) (h:∀ I h₂ fp P St,(∀ b∈fp,b=I)→Src prog w A φ s.heap I (l.map fun c=>.str [c]) h₂ fp P St→Q (.ref I) { s with heap:=h₂}):wpAny (model prog w) A (pyIter u) Q E s :=
 cv (m:=fun u=>wpAny (model prog w) A (pyIter u) Q E s) r fun t ok=>by
  have its:(txt l).cps.size=(l.map fun c=>V.str [c]).length:=by rw [List.length_map];exact List.size_toArray
  have item:∀ i v x,SignAt (txt l) i v→(l.map fun c=>V.str [c])[i]? = some x→Rep w φ s.heap x v:=fun i v x p e=>by
   obtain ⟨c,u,hc,rfl⟩:=p
   rw [List.getElem?_map] at e
   obtain ⟨d,hd,rfl⟩:=Option.map_eq_some_iff.mp e
   obtain rfl:=aaa (hd.symm.trans ((B5 l i).symm.trans hc))
   exact cI ⟨by show 1≤big;decide,fun x hx=>by rw [aai.mp hx];exact ok.2 _ (aah hd)⟩ u
  have few:(l.map fun c=>V.str [c]).length≤big:=by rw [List.length_map];exact ok.1
  cases ha:(txt l).cps.all (· < 128)
  ·have W:=Walks.strWide (prog:=prog) (w:=w) hh s.heap.objs.size (txt l) t
   rw [its] at W
   exact wpAny_pyIter_wide ha (h _ _ _ _ _ (fun b hb=>aai.mp hb) ⟨W,⟨_,Heap.get?_push_size _ rfl,rfl,rfl⟩,dj _,fun b hb=>.inl (aai.mp hb),item,Ext.push _ _,kS _ _,few,⟨_,Heap.get?_push_size _ rfl⟩,fun i h st=>let ⟨o,a,b,d⟩:=st;⟨o,a,.inr (.inr ⟨_,d,by rw [b];decide⟩),gj d⟩⟩)
  ·have W:=Walks.strAscii (prog:=prog) (w:=w) hh s.heap.objs.size (txt l) t
   rw [its] at W
   exact wpAny_pyIter_ascii ha (h _ _ _ _ _ (fun b hb=>aai.mp hb) ⟨W,⟨_,Heap.get?_push_size _ rfl,rfl,rfl⟩,dj _,fun b hb=>.inl (aai.mp hb),item,Ext.push _ _,kS _ _,few,⟨_,Heap.get?_push_size _ rfl⟩,fun i h st=>let ⟨o,a,b,d⟩:=st;⟨o,a,.inr (.inr ⟨_,d,by rw [b];decide⟩),gj d⟩⟩)
theorem B6 {l:List Nat}{u:Value}{Q:Value→Shared→Prop}(hh:A.handled=none) (r:Rep w φ s.heap (.str l) u) (h:qH prog w A φ (l.map fun c=>.str [c]) Q s):wpAny (model prog w) A (pyIter u) Q E s:=rE hh r fun I h₂ fp P St zz=>h I h₂ fp P St
theorem x0 {a b c:Int}{k:Nat}(hc:c=1∨c = -1) (sz:Builtin.Range.rangeSize a b c=(k:Int)) (hk:k≤1000001) (h1 : -1≤a∧a≤1000000∧-1≤b∧b≤1000000):Builtin.Range.small a b c=true:=by
 unfold Builtin.Range.small
 rw [sz]
 simp only [Builtin.Range.rangeFitsLong]
 clear sz
 rcases hc with rfl | rfl<;>simp<;>omega
theorem u5 {a b c:Int}{k:Nat}{u:Value}{Q:Value→Shared→Prop}(hh:A.handled=none) (hc:c=1∨c = -1) (sz:Builtin.Range.rangeSize a b c=(k:Int)) (hk:k≤1000001) (h1 : -1≤a∧a≤1000000∧-1≤b∧b≤1000000) (r:Rep w φ s.heap (.rng a b c) u) (h:qH prog w A φ ((List.range k).map fun (i:Nat)=>V.int (a+(i:Int)*c)) Q s):wpAny (model prog w) A (pyIter u) Q E s:=by
 rw [m4] at r
 obtain ⟨r,x,y,z,rfl,m,ho⟩:=r
 have W:=Walks.range (prog:=prog) (w:=w) hh s.heap.objs.size a c k
 have ln:((List.range k).map fun (i:Nat)=>V.int (a+(i:Int)*c)).length=k:=by rw [List.length_map,List.length_range]
 rw [← ln] at W
 refine wpAny_pyIter_range ho (x0 hc sz hk h1) (h _ _ _ _ _ ⟨W,?_,dj _,fun b hb=>.inl (aai.mp hb),fun i v x p e=>?_,Ext.push _ _,kS _ _,by rw [ln];exact aaf hk (by decide),⟨_,Heap.get?_push_size _ rfl⟩,fun i h st=>⟨_,st,.inr (.inr ⟨_,rfl,(show Value.type "range_iterator"≠Value.type "range" by decide)⟩),gj rfl⟩⟩)
 ·have:=Heap.get?_push_size s.heap (o:=({ cls:=.type "range_iterator",data:=.fields #[rawInt a,rawInt (Builtin.Range.rangeSize a b c),rawInt c]} : Obj)) rfl
  show (Heap.push _ _).get? _=_
  rw [this,sz,ln];simp
 ·obtain ⟨t,rfl⟩:=p
  rw [List.getElem?_map] at e
  obtain ⟨d,hd,rfl⟩:=Option.map_eq_some_iff.mp e
  obtain ⟨_,rfl⟩:=List.getElem?_eq_some_iff.mp hd
  rw [List.getElem_range];exact bR _ _
theorem x5 {a b c:Int}{its:List V}{m:Int→List V→Prop}(e:eH (.rng a b c)=some its) (k1:(-1≤a∧a≤1000000∧-1≤b∧b≤1000000)→m 1 ((List.range (b - a).toNat).map fun (i:Nat)=>V.int (a+(i:Int)*1))) (k2:(-1≤a∧a≤1000000∧-1≤b∧b≤1000000)→m (-1) ((List.range (a - b).toNat).map fun (i:Nat)=>V.int (a+(i:Int)*(-1)))):m c its:=by
 replace e:(if -1≤a∧a≤1000000∧-1≤b∧b≤1000000 then
  if c=1 then some ((List.range (b - a).toNat).map fun (i:Nat)=>V.int (a+(i:Int)*1)) else if c = -1 then some ((List.range (a - b).toNat).map fun (i:Nat)=>V.int (a+(i:Int)*(-1))) else none
  else none)=some its:=e
 by_cases bd : -1≤a∧a≤1000000∧-1≤b∧b≤1000000
 ·rw [if_pos bd] at e
  by_cases hc:c=1
  ·rw [if_pos hc] at e;rw [hc,← aaa e];exact k1 bd
  ·rw [if_neg hc] at e
   exact dS e fun hc e=>by rw [hc,← e];exact k2 bd
 ·rw [if_neg bd] at e;exact bH e
theorem x7 {v:V}{its:List V}{u:Value}{Q:Value→Shared→Prop}(hh:A.handled=none) (e:eH v=some its) (r:Rep w φ s.heap v u)
 (h:∀ I h₂ fp P St,Src prog w A φ s.heap I its h₂ fp P St→Q (.ref I) { s with heap:=h₂}):wpAny (model prog w) A (pyIter u) Q E s:=by
 cases v with
 | list xs=>obtain rfl:=aaa e;exact zM hh r h
 | str l=>obtain rfl:=aaa e;exact B6 hh r h
 | rng a b c=>exact x5 (m:=fun c its=>Rep w φ s.heap (.rng a b c) u→qH prog w A φ its Q s→wpAny (model prog w) A (pyIter u) Q E s) e (fun bd=>u5 hh (.inl rfl) (rD a b) (by clear h r e;omega) bd) (fun bd=>u5 hh (.inr rfl) (pd a b) (by clear h r e;omega) bd) r h
 | _=>exact bH e
end
section
variable {N:aH}{prog:Program}{w:World}{h₀ h h' h₁:Heap}{σ:St}{φ:Phi}{env:Env}{vars:List Str}{ρ ρ':Rho}{A:Around}{E:Value→Shared→Prop}{s:Shared}
structure ig (sc:Scope) (ownn:List Str):Prop where
 fn:sc.kind = .function
 kinds:∀ n k,(n,k)∈sc.names→k≠.cell∧k≠.free∧(k = .local→n∈ownn∨n=(".0":Str))∧sc.names.lookup n=some k
 ownn:∀ n∈ownn,sc.names.lookup n=some .local
theorem B7 {sc:Scope}{ownn:List Str}(h:uS sc ownn=true):ig sc ownn :=
 aI h fun h1 h2 h3=>⟨eq_of_beq h1,fun n k m=>aq (aab.mp h2 _ m) fun a d=>aI a fun a b c=>⟨bne_iff_ne.mp a,bne_iff_ne.mp b,fun e=>by
  rw [if_pos (beq_iff_eq.mpr e)] at c;exact (Bool.or_eq_true_iff.mp c).imp aak.mp eq_of_beq,eq_of_beq d⟩,fun n m=>eq_of_beq (aab.mp h3 n m)⟩
theorem ni (f:Str×NameKind→List (Str×Addr)→Sem (ForInStep (List (Str×Addr)))) (hf:∀ n k cs,k≠.free→f (n,k) cs=pure (.yield cs)) :
 ∀ (names:List (Str×NameKind)) (acc:List (Str×Addr)),(∀ n k,(n,k)∈names→k≠.free)→forIn names acc f=(pure acc:Sem _)
 | [],acc,_=>by rw [List.forIn_nil]
 | (n,k) :: r,acc,h=>by
  rw [List.forIn_cons,hf n k acc (h n k aam),pure_bind]
  exact ni f hf r acc fun n k m=>h n k (aag _ m)
theorem qt {sc:Scope}{ownn:List Str}(so:ig sc ownn):closureFor sc env=pure []:=by
 show (forIn sc.names [] _ >>= fun s=>(pure s:Sem (List (Str×Addr))))=_
 rw [ni _ (fun n k cs q=>if_neg (ne_true_of_eq_false (beq_eq_false_iff_ne.mpr q))) sc.names [] fun n k m=>(so.kinds n k m).2.1]
 rfl
theorem jw {sc:Scope}{ownn:List Str}(so:ig sc ownn):relabel sc env=sc:=by
 have e:(sc.names.map fun (n,k)=>if (k==.free&&env.scope.kind==.function&&env.kindOf n==some .cell) then (n,.cell) else (n,k))=sc.names :=
  (List.map_congr_left fun (n,k) m=>if_neg (by rw [show (k==NameKind.free)=false from beq_eq_false_iff_ne.mpr (so.kinds n k m).2.1];exact aaj)).trans (List.map_id _)
 unfold relabel
 rw [e]
theorem B8 {sc:Scope}{C:Addr}{n:Str}{k:NameKind}{ownn:List Str}(so:ig sc ownn) (h:(compEnvC sc [] C env).kindOf n=some k):(n,k)∈sc.names :=
 mem_of_lookup ((congrArg (fun s:Scope=>s.names.lookup n) (jw (env:=env) so)).symm.trans h)
theorem Fra.comp {sc:Scope}{ownn:List Str}{C:Addr}{m:Str→Option Value}(F:Fra w h₀ φ env vars ρ h) (so:ig sc ownn) (hC:h.Ns C m) (fresh:h₀.get? C=none) (nm:C∉au φ) (dot:(".0":Str)∉vars)
 (own1:∀ (i:Nat) (x:V) (n':Str),ρ'[i]? = some (some x)→vars[i]? = some n'→n'∈ownn→∃ u,m n'=some u∧Rep w φ h x u) :
 Fra w h₀ φ (compEnvC sc [] C env) vars ρ' h :=
 ⟨so.fn,⟨m,hC,fun i v n a b c=>((so.kinds n _ (B8 so c)).2.2.1 rfl).elim (own1 i v n a b) fun q=>absurd (q▸aah b) dot⟩,
  fun b hb=>aai.mp hb▸fresh,fun b hb=>aai.mp hb▸nm⟩
theorem wf {sc:Scope}{C:Addr}{ownn:List Str}(so:ig sc ownn):(compEnvC sc [] C env).scope=sc:=jw so
end
noncomputable abbrev i7 (sc:Scope) (C:Addr) (env:Env):Env:=compEnvC sc [] C env
section
variable {N:aH}{prog:Program}{w:World}{h₀ h h' h₁ h₂:Heap}{σ:St}{φ:Phi}{env:Env}{vars:List Str}{ρ ρ':Rho}{A:Around}{E:Value→Shared→Prop}{s:Shared}
noncomputable def wg (prog:Program) (w:World) (N:aH) (h₀:Heap) (A:Around) (σ:St) (env:Env) (vars:List Str) (sc:Scope) (elt:Expr) (setv:V→Rho) (eltv:V→Option V):Prop:=∀ (φ:Phi) (C:Addr) (x y:V) (s':Shared) (Q':Value→Shared→Prop) (E':Value→Shared→Prop),
 eltv x=some y→bw h₀ A φ s'.heap→Rel N w h₀ σ φ s'.heap→Fra w h₀ φ (i7 sc C env) vars (setv x) s'.heap→(∀ h'' tk u,Ext s'.heap h''→Rep w φ h'' y u→Q' u { s' with heap:=h'',toks:=tk})→wpAny (model prog w) A (eval elt (i7 sc C env)) Q' E' s'
theorem nj {eltv:V→Option V}{x:V}{r l:List V}(h:f7 eltv (x :: r)=some l):∃ y l',eltv x=some y∧f7 eltv r=some l'∧l=y :: l':=by
 obtain ⟨y,b,h⟩:=bind_some h
 obtain ⟨l',c,rfl⟩:=map_some h
 exact ⟨y,l',b,c,rfl⟩
theorem p8 {eltv:V→Option V} : ∀ {r l:List V},f7 eltv r=some l→l.length=r.length
 | [],_,h=>by obtain rfl:=aaa h;rfl
 | x :: r,l,h=>by
  obtain ⟨y,l',_,q,rfl⟩:=nj h
  exact congrArg (· + 1) (p8 q)
theorem mf {i n:Nat}(h:i<n):n+1 - (i+1)<n+1 - i:=Nat.sub_lt_sub_left (Nat.lt_succ_of_lt h) (Nat.lt_succ_self i)
theorem Fra.one {sc:Scope}{nm:Str}{v:Nat}{C:Addr}{m:Str→Option Value}{x:V}{u:Value}(F:Fra w h₀ φ env vars ρ h) (so:ig sc [nm]) (hv:vars[v]? = some nm) (nd:vars.Nodup) (hC:h.Ns C m) (hm:m nm=some u) (r:Rep w φ h x u) (fresh:h₀.get? C=none) (nmut:C∉au φ) (dot:(".0":Str)∉vars) :
 Fra w h₀ φ (i7 sc C env) vars (ρ.set v (some x)) h :=
 F.comp so hC fresh nmut dot fun i y n' a b c=>by
  rw [aai] at c;subst c
  have:=ia nd hv b;subst this
  rcases xT a with ⟨_,rfl⟩ | ⟨ne,_⟩
  ·exact ⟨u,hm,r⟩
  ·exact absurd rfl ne
theorem Src.frame {I:Addr}{its:List V}{fp:List Addr}{P:Nat→Value→Prop}{St:Nat→Heap→Prop}(S:Src prog w A φ h₁ I its h₂ fp P St) {i:Nat}{H H':Heap}(st:St i H) (k:∀ b o,b<h₂.objs.size→H.get? b=some o→H'.get? b=some o):St i H' :=
 S.walks.frame _ _ _ st fun b hb o e=>k b o ((S.fps b hb).elim (fun q=>q▸S.size) fun ⟨_,e',_⟩=>Heap.lt_size (S.ext _ _ e')) e
inductive zN (w:World) (φ:Phi) (I:Addr) (St:Nat→Heap→Prop) (eltv:V→Option V) (its l:List V) (D C:Addr) (s:Shared) (k:Nat) (s':Shared):Prop where
 | mk (h':Heap) (tk:Tok) (m':Str→Option Value) (i:Nat) (ys:Array Value) (done rest:List V) (e:s' = { s with heap:=h',toks:=tk}) (st:St i h') (acc:h'.PlainList D ys) (ns:h'.Ns C m') (hi:i≤its.length) (ek:k=its.length+1 - i) (x:Ext s.heap h') (rs:Reps w (φ.ban [D,I]) h' done ys.toList) (sz:ys.size≤i) (c:f7 eltv (its.drop i)=some rest) (el:l=done++rest)
section
variable {elt:Expr}{sc:Scope}{its l:List V}{I D C:Addr}{fp:List Addr}{Pp:Nat→Value→Prop}{St:Nat→Heap→Prop}{eltv:V→Option V}{nm:Str}{px:Pos}{v:Nat}
theorem dp (R:Rel N w h₀ σ φ h) {b:Addr}(e:h.get? b=none):b∉au φ:=fun m=>by have:=R.mut_some b m;rw [e] at this;injection this
theorem jx (R:Rel N w h₀ σ φ h) {b:Addr}(e:h.get? b=none):h₀.get? b=none:=by
 cases q:h₀.get? b with
 | none=>rfl
 | some o=>rw [R.base _ _ q] at e;injection e
theorem rF {H:Heap}{m:Str→Option Value}(h:H.Ns C m):Own H [C]:=fun b hb=>by
 obtain ⟨o,es,ep,e,d,_⟩:=h
 rw [aai.mp hb];exact ⟨o,e,.inl ⟨es,ep,d⟩⟩
theorem pe {B:List Addr}{b:Addr}(h:b∈B):b∈au (φ.ban B):=eP.mpr (.inr h)
theorem zO {a i n:Nat}(h1:a≤i) (h2:i<n) (h3:n≤big):a≤sizeLine:=aaf h1 (aaf (Nat.le_of_lt h2) (aaf h3 hY))
theorem x8 {B:List Addr}{h₅ h₆:Heap}{ys:Array Value}{done:List V}{y:V}{uy:Value}(hD:D∈B) (r:Reps w (φ.ban B) h₅ done ys.toList) (ry:Rep w (φ.ban B) h₅ y uy) (hs:h₅.SameBut D h₆):Reps w (φ.ban B) h₆ (done++[y]) (ys.push uy).toList:=by
 rw [Array.toList_push]
 exact Reps.mono (own:=[]) (h:=h₅) (.refl _ _) (fun b o e nm zz=>⟨o,hs.extBut b o (fun q=>nm (q▸pe hD)) e,.refl _⟩) (.nil _) (Reps.app r (by rw [aB];exact ⟨uy,[],rfl,ry,by rw [aN]⟩))
theorem ya (so:ig sc [nm]) (hv:vars[v]? = some nm) (nd:vars.Nodup) (dot:(".0":Str)∉vars) (F:Fra w h₀ φ env vars ρ s.heap) (S:Src prog w A φ s.heap I its h₂ fp Pp St) (fr:bw h₀ A φ s.heap) (T:wg prog w N h₀ A σ env vars sc elt (fun x=>ρ.set v (some x)) eltv) (R:Rel N w h₀ σ φ s.heap) (hD:h₂.objs.size≤D) (hC:h₂.objs.size≤C) (hDC:D≠C) (noD:s.heap.get? D=none) (noC:s.heap.get? C=none) (hl:l.length≤big)
 {RD:Shared→Prop}(post:∀ h' tk m',h'.Ns C m'→Ext s.heap h'→Rep w φ h' (.list l) (.ref D)→RD { s with heap:=h',toks:=tk})
 {k:Nat}{s':Shared}(J:zN w φ I St eltv its l D C s k s') {EE:Value→Shared→Prop}{QN:Option Value→Shared→Prop}
 (some_:∀ v s1,wpAny (model prog w) A (assign (.Name nm px) (i7 sc C env) v) (fun zz s2=>wpAny (model prog w) A (eval elt (i7 sc C env)) (fun x s3=>wpAny (model prog w) A (call (.builtin "list.append") [.ref D,x]) (fun zz s4=>∃ k',k'<k∧zN w φ I St eltv its l D C s k' s4) EE s3) EE s2) EE s1→QN (some v) s1) (none_:∀ s1,RD s1→QN none s1) :
 wpAny (model prog w) A (pyNext (.ref I)) QN EE s':=by
 obtain ⟨H,tk,m',i,ys,done,rest,rfl,st,acc,hn,hi,rfl,hx,hr,hys,hc,hle⟩:=J
 have nB:∀ b∈[D,I],s.heap.get? b=none:=fun b hb=>(List.mem_cons.mp hb).elim (fun e=>e▸noD) fun hb=>aai.mp hb▸S.new
 have DI:D∉[I]:=fun q=>Nat.lt_irrefl _ (Nat.lt_of_le_of_lt hD (aai.mp q▸S.size))
 have CI:C∉[I]:=fun q=>Nat.lt_irrefl _ (Nat.lt_of_le_of_lt hC (aai.mp q▸S.size))
 have nC:∀ {b},b<h₂.objs.size→b≠C:=fun lt q=>Nat.lt_irrefl _ (Nat.lt_of_le_of_lt hC (q▸lt))
 have nD:∀ {b},b<h₂.objs.size→b≠D:=fun lt q=>Nat.lt_irrefl _ (Nat.lt_of_le_of_lt hD (q▸lt))
 have lt₁:∀ {b o},s.heap.get? b=some o→b<h₂.objs.size:=fun e=>Heap.lt_size (S.ext _ _ e)
 have nI:∀ {b o},s.heap.get? b=some o→b∉[I]:=fun e q=>by rw [aai.mp q,S.new] at e;injection e
 by_cases hlt:i<its.length
 ·have CM:C∉au (φ.ban [D,I]):=fun m=>(eP.mp m).elim (dp R noC) fun m=>(List.mem_cons.mp m).elim (Ne.symm hDC) CI
  have Gr:=bM.ban φ nB
  refine S.walks.item i _ _ _ hlt st fun u h₁ tk₁ hP st₁ hk₁=>some_ _ _ ?_
  refine wpAny_assign_Name (wpAny_storeName_local ((congrArg (fun s:Scope=>s.names.lookup nm) (jw (env:=env) so)).trans (so.ownn nm (List.mem_singleton_self _))) (Ns.at1 hn fun o e=>hk₁ _ o CI e) (fun hc2 hn2 hs₂=>?_) (by show (sc.kind==.class||(sc.kind==.module&&_))=false;rw [so.fn];rfl))
  have hxi:=List.getElem?_eq_getElem hlt
  rw [List.drop_eq_getElem_cons hlt] at hc
  obtain ⟨y,l',hy,hl',rfl⟩:=nj hc
  generalize its[i]=x at hxi hy
  have step:∀ b o,b≠C→b∉[I]→H.get? b=some o→hc2.get? b=some o:=fun b o n1 n2 e=>hs₂.extBut b o n1 (hk₁ b o n2 e)
  have x2:Ext s.heap hc2:=fun b o e=>step b o (nC (lt₁ e)) (nI e) (hx b o e)
  have st2:St (i+1) hc2:=S.frame st₁ fun b o lt e=>hs₂.extBut b o (nC lt) e
  have acc2:hc2.PlainList D ys:=acc.at fun o e=>step D o hDC DI e
  have r2:Reps w (φ.ban [D,I]) hc2 done ys.toList:=Reps.mono (own:=[C]) (h:=H) (.refl _ _) (fun b o e nm nb=>⟨o,step b o (fun q=>nb (aai.mpr q)) (fun q=>nm (pe (aag _ q))) e,.refl _⟩) (rF hn) hr
  have F2:=(F.keep0 Gr x2.keep).one so hv nd hn2 (if_pos rfl) ((S.item i u _ hP hxi).mono Gr (x2.keep (own:=[])) (.nil _)) (jx R noC) CM dot
  refine T _ C x y _ _ _ hy (fr.keep (ow:=[]) Gr x2.keep fun zz m=>absurd m List.not_mem_nil) (R.ban x2 nB fun b hb=>(List.mem_cons.mp hb).elim (fun e=>by obtain ⟨n,q⟩:=acc2;rw [e,q];rfl) fun hb=>by obtain ⟨o,e,_⟩:=S.stays _ _ st2;rw [aai.mp hb,e];rfl) F2 fun h₅ tk₅ uy x₅ ry=>?_
  refine wpAny_list_append_plain (hsz:=zO hys hlt S.few) (acc2.at fun o e=>x₅ D o e) fun h₆ hl₆ hs₆=>?_
  exact ⟨_,mf hlt,h₆,tk₅,_,i+1,ys.push uy,done++[y],l',rfl,S.frame st2 fun b o lt e=>hs₆.extBut b o (nD lt) (x₅ _ _ e),hl₆,(Ns.ext hn2 x₅).sameBut hs₆ (Ne.symm hDC),hlt,rfl,
   fun b o e=>hs₆.extBut b o (nD (lt₁ e)) (x₅ _ _ (x2 _ _ e)),x8 aam (r2.ext x₅) ry hs₆,by rw [Array.size_push];exact Nat.succ_le_succ hys,hl',by rw [hle,aap];rfl⟩
 ·cases Nat.le_antisymm hi (Nat.le_of_not_lt hlt)
  refine S.walks.done _ _ _ st fun h₁ tk₁ hk₁=>none_ _ (post h₁ tk₁ m' (Ns.at1 hn fun o e=>hk₁ _ o CI e) (fun b o e=>hk₁ b o (nI e) (hx b o e)) ?_)
  rw [List.drop_of_length_le (Nat.le_refl _)] at hc
  obtain rfl:=aaa hc
  rw [List.append_nil] at hle
  subst hle
  obtain ⟨n,e⟩:=acc.at fun o e=>hk₁ D o DI e
  rw [cX]
  exact ⟨hl,D,ys.toList,n,rfl,dp R noD,e,Reps.unban (B:=[D,I]) (Reps.mono (own:=[]) (h:=H) (.refl _ _) (fun b o e nm zz=>⟨o,hk₁ b o (fun q=>nm (pe (aag _ q))) e,.refl _⟩) (.nil _) hr)⟩
theorem yc {pos:Pos}{iter:Expr}{tk₂:Tok}{RR:Value→Addr→Result→Shared→Prop}(so:ig sc [nm]) (hv:vars[v]? = some nm) (nd:vars.Nodup) (dot:(".0":Str)∉vars) (F:Fra w h₀ φ env vars ρ s.heap) (S:Src prog w A φ s.heap I its h₂ fp Pp St) (fr:bw h₀ A φ s.heap) (R:Rel N w h₀ σ φ s.heap)
 (T:wg prog w N h₀ A σ env vars sc elt (fun x=>ρ.set v (some x)) eltv) (hl:f7 eltv its=some l)
 (post:∀ D C h' tk m',s.heap.get? C=none→D≠C→h'.Ns C m'→Ext s.heap h'→Rep w φ h' (.list l) (.ref D)→RR (.ref D) C (.ok .next) { s with heap:=h',toks:=tk}) :
 wpAny (model prog w) A (newList []) (fun acc s₃=>wpAny (model prog w) A (newFunctionEnv sc env.globals [] [] env.qual none .none (some env)) (fun cenv s₄ =>
  codeAny (model prog w) A (.compStart (.ListComp elt [⟨.Name nm px,iter,[],0⟩] sc pos) 0 (.ref I) acc { cenv with scope:=relabel sc env}) (RR acc cenv.locals) s₄) E s₃) E { s with heap:=h₂,toks:=tk₂}:=by
 refine wpAny_newObj_type (wpAny_newFunctionEnv (fun y hy=>(so.kinds y.1 y.2 hy).1) (fun y hy=>absurd hy List.not_mem_nil) (fun h₃ hns₁ hsb₁=>?_) so.fn)
 dsimp only at hns₁ hsb₁ ⊢
 generalize hH2:h₂.push { cls:=.type "list",dict:=none,data:=.seq ([]:List Value).toArray} = H2 at hns₁ hsb₁ ⊢
 obtain ⟨D,hDD⟩:∃ D,D=h₂.objs.size:=⟨_,rfl⟩
 obtain ⟨C,hCC⟩:∃ C,C=H2.objs.size:=⟨_,rfl⟩
 rw [← hDD];rw [← hCC] at hns₁ hsb₁ ⊢
 have hDC':C=D+1:=by rw [hCC,← hH2,Heap.size_push,hDD]
 have hDC:D≠C:=hDC'▸(Nat.succ_ne_self D).symm
 have hD:h₂.objs.size≤D:=Nat.le_of_eq hDD.symm
 have hC:h₂.objs.size≤C:=hDC'▸Nat.le_succ_of_le hD
 have none_of:∀ {b},h₂.objs.size≤b→s.heap.get? b=none:=fun {b} hb=>by
  cases q:s.heap.get? b with
  | none=>rfl
  | some o=>exact absurd (Heap.lt_size (S.ext _ _ q)) (Nat.not_lt.mpr hb)
 have neC:∀ {b},b<h₂.objs.size→b≠C:=fun lt q=>Nat.lt_irrefl _ (Nat.lt_of_le_of_lt hC (q▸lt))
 have old:∀ b o,h₂.get? b=some o→h₃.get? b=some o:=fun b o e=>hsb₁.extBut b o (neC (Heap.lt_size e)) (Heap.get?_push_of_some _ (hH2▸Heap.get?_push_of_some _ e))
 have st:St 0 h₃:=S.frame S.start fun b o zz e=>old b o e
 have acc:h₃.PlainList D #[]:=⟨_,hsb₁.extBut _ _ hDC (Heap.get?_push_of_some _ (by rw [← hH2,hDD];exact Heap.get?_push_size _ rfl))⟩
 have loop:∀ tk,codeAny (model prog w) A (.compLoop (.ListComp elt [⟨.Name nm px,iter,[],0⟩] sc pos) 0 (.ref I) (.ref D) (i7 sc C env)) (RR (.ref D) C) { s with heap:=h₃,toks:=tk}:=fun tk₀ =>
  codeAny_compLoop_list (zN w φ I St eltv its l D C s) (fun k s1 J=>ya so hv nd dot F S fr T R hD hC hDC (none_of hD) (none_of hC) (p8 hl▸S.few) (fun h' tk m' hn x r=>post D C h' tk m' (none_of hC) hDC hn x r) J (fun zz zz z=>z) fun zz z=>z) (its.length+1)
   ⟨h₃,tk₀,_,0,#[],[],l,rfl,st,acc,hns₁,Nat.zero_le _,rfl,S.ext.trans old,by rw [aN],Nat.zero_le _,hl,rfl⟩
 exact codeAny_compStart_list (loop _) (S.walks.self 0 _ _ _ st (loop _))
end
end
section
variable {N:aH}{prog:Program}{w:World}{h₀ h h' h₁:Heap}{σ σ' σ₁ σ₂:St}{φ φ' φ₁ φ₂:Phi}{env:Env}{vars:List Str}{ρ:Rho}{A:Around}{E:Value→Shared→Prop}{s:Shared}{G:Sg}{K:Frag}{ga ba:Addr}{n:Nat}{c:Cx}
theorem B9 {pos:Pos}{op:BoolOp}{x:Sem Value}{Q:Value→Shared→Prop}(h:wpAny (model prog w) A x Q E s):wpAny (model prog w) A (boolOp pos op [x]) Q E s:=h
theorem Ca {pos:Pos}{u:Bool}{x y:Sem Value}{r:List (Sem Value)}{Q:Value→Shared→Prop}
 (h:wpAny (model prog w) A x (fun v s₁=>∃ b,v = .bool b∧if b=u then wpAny (model prog w) A (boolOp pos (if u then .And else .Or) (y :: r)) Q E s₁ else Q v s₁) E s) :
 wpAny (model prog w) A (boolOp pos (if u then .And else .Or) (x :: y :: r)) Q E s:=by
 cases u
 ·show wpAny (model prog w) A (do
   let v ← x
   standAt pos
   let t ← holding [v] (truthy v)
   match BoolOp.Or,t with
   | .And,false | .Or,true=>pure v
   | _,_=>boolOp pos .Or (y :: r)) Q E s
  refine wpAny_bind (wpAny_mono h (fun v s₁ h₁=>wpAny_bind (wpAny_standAt (wpAny_bind (wpAny_holding ?_)))) fun zz zz x=>x)
  obtain ⟨b,rfl,h₁⟩:=h₁
  refine wpAny_truthy_bool ?_
  cases b
  ·exact h₁
  ·exact wpAny_pure h₁
 ·show wpAny (model prog w) A (do
   let v ← x
   standAt pos
   let t ← holding [v] (truthy v)
   match BoolOp.And,t with
   | .And,false | .Or,true=>pure v
   | _,_=>boolOp pos .And (y :: r)) Q E s
  refine wpAny_bind (wpAny_mono h (fun v s₁ h₁=>wpAny_bind (wpAny_standAt (wpAny_bind (wpAny_holding ?_)))) fun zz zz x=>x)
  obtain ⟨b,rfl,h₁⟩:=h₁
  refine wpAny_truthy_bool ?_
  cases b
  ·exact wpAny_pure h₁
  ·exact h₁
theorem tR {u:Bool}{Q:Bool→Shared→Prop}(h:Q u s):wpAny (model prog w) A (allTrue (if u then .And else .Or) [] env) Q E s:=by cases u<;>exact wpAny_pure h
theorem rG {u:Bool}{e:Expr}{r:List Expr}{Q:Bool→Shared→Prop}
 (h:wpAny (model prog w) A (isTrue e env (eval e env)) (fun b s₁=>if b=u then wpAny (model prog w) A (allTrue (if u then .And else .Or) r env) Q E s₁ else Q (!u) s₁) E s) :
 wpAny (model prog w) A (allTrue (if u then .And else .Or) (e :: r) env) Q E s:=by
 cases u
 ·show wpAny (model prog w) A (do
   match BoolOp.Or,← isTrue e env (eval e env) with
   | .And,false=>pure false
   | .Or,true=>pure true
   | _,_=>allTrue .Or r env) Q E s
  refine wpAny_bind (wpAny_mono h (fun b s₁ h₁=>?_) fun zz zz x=>x)
  cases b
  ·exact h₁
  ·exact wpAny_pure h₁
 ·show wpAny (model prog w) A (do
   match BoolOp.And,← isTrue e env (eval e env) with
   | .And,false=>pure false
   | .Or,true=>pure true
   | _,_=>allTrue .And r env) Q E s
  refine wpAny_bind (wpAny_mono h (fun b s₁ h₁=>?_) fun zz zz x=>x)
  cases b
  ·exact wpAny_pure h₁
  ·exact h₁
theorem rH {v:V}{b:Bool}{u:Value}{h:Heap}(e:ck v=some b) (r:Rep w φ h v u):u = .bool b∧v = .bool b:=by
 cases v<;>simp only [ck,reduceCtorEq,Option.some.injEq] at e
 subst e;rw [dG] at r;exact ⟨r,rfl⟩
end
structure Pre (G:Sg) (N:aH) (w:World) (h₀:Heap) (ga ba:Addr) (n:Nat) (c:Cx) (env:Env) (A:Around) (ρ:Rho) (σ:St) (φ:Phi) (s:Shared):Prop where
 cx:Cxt G c env ga ba
 a:AOk n A
 fr:bw h₀ A φ s.heap
 R:Rel N w h₀ σ φ s.heap
 F:Fra w h₀ φ env c.vars ρ s.heap
section
variable (G:Sg) (prog:Program) (w:World) (N:aH) (h₀:Heap) (ga ba:Addr) (n:Nat)
noncomputable def ay (x:X):Prop:=∀ (c:Cx) (env:Env) (e:Expr) (ρ:Rho) (σ σ':St) (v:V) (φ:Phi) (s:Shared) (A:Around) (E:Value→Shared→Prop) (Q:Value→Shared→Prop),
 okX c x e=true→Pre G N w h₀ ga ba n c env A ρ σ φ s→ev G ρ σ x=some (v,σ')→Aft N w h₀ (aK x) σ' v φ s Q→wpAny (model prog w) A (eval e env) Q E s
noncomputable def dL (x:X):Prop:=∀ (c:Cx) (env:Env) (e:Expr) (ρ:Rho) (σ σ':St) (v:V) (b:Bool) (φ:Phi) (s:Shared) (A:Around) (E:Value→Shared→Prop) (Q:Bool→Shared→Prop),
 okX c x e=true→Pre G N w h₀ ga ba n c env A ρ σ φ s→ev G ρ σ x=some (v,σ')→ck v=some b→iT N w h₀ (aK x) σ' b φ s Q→wpAny (model prog w) A (isTrue e env (eval e env)) Q E s
noncomputable def fy (xs:List X):Prop:=∀ (c:Cx) (env:Env) (es:List Expr) (ρ:Rho) (σ σ':St) (vs:List V) (φ:Phi) (s:Shared) (A:Around) (E:Value→Shared→Prop) (Q:List Value→Shared→Prop),
 okXs c xs es=true→Pre G N w h₀ ga ba n c env A ρ σ φ s→evs G ρ σ xs=some (vs,σ')→zJ N w h₀ (pureXs xs) σ' vs φ s Q→wpAny (model prog w) A (spliced (aV es env)) Q E s
noncomputable def kT (xs:List X):Prop:=∀ (c:Cx) (env:Env) (es:List Expr) (pos:Pos) (u:Bool) (ρ:Rho) (σ σ':St) (b:Bool) (φ:Phi) (s:Shared) (A:Around) (E:Value→Shared→Prop) (Q:Value→Shared→Prop),
 okXs c xs es=true→xs.isEmpty=false→Pre G N w h₀ ga ba n c env A ρ σ φ s→evC G u ρ σ xs=some (b,σ')→Aft N w h₀ (pureXs xs) σ' (.bool b) φ s Q→wpAny (model prog w) A (boolOp pos (if u then .And else .Or) (evalEach es env)) Q E s
noncomputable def kU (xs:List X):Prop:=∀ (c:Cx) (env:Env) (es:List Expr) (u:Bool) (ρ:Rho) (σ σ':St) (b:Bool) (φ:Phi) (s:Shared) (A:Around) (E:Value→Shared→Prop) (Q:Bool→Shared→Prop),
 okXs c xs es=true→Pre G N w h₀ ga ba n c env A ρ σ φ s→evC G u ρ σ xs=some (b,σ')→iT N w h₀ (pureXs xs) σ' b φ s Q→wpAny (model prog w) A (allTrue (if u then .And else .Or) es env) Q E s
end
section
variable {N:aH}{prog:Program}{w:World}{h₀ h h' h₁:Heap}{σ σ' σ₁ σ₂:St}{φ φ' φ₁ φ₂:Phi}{env:Env}{vars:List Str}{ρ:Rho}{A:Around}{E:Value→Shared→Prop}{s:Shared}{G:Sg}{K:Frag}{ga ba:Addr}{n:Nat}{c:Cx}
theorem Pre.step {p:Bool}{tk:Tok}(P:Pre G N w h₀ ga ba n c env A ρ σ φ s) (S:Stp p φ s.heap φ₁ h₁) (R:Rel N w h₀ σ₁ φ₁ h₁):Pre G N w h₀ ga ba n c env A ρ σ₁ φ₁ { s with heap:=h₁,toks:=tk}:=⟨P.cx,P.a,S.fr P.fr,R,S.fra P.F⟩
theorem bE:∀ {b:Bool},(!b)=true→b=false
 | false,_=>rfl
theorem fQ {α:Type}{x:Option α}{g:α→V}{v:V}{pu:Bool}{Q:Value→Shared→Prop}{C:Prop}(e:x.map (fun a=>(g a,σ₁))=some (v,σ')) (h:Aft N w h₀ pu σ' v φ s Q) (k:∀ a,x=some a→Aft N w h₀ pu σ₁ (g a) φ s Q→C):C:=by
 obtain ⟨a,p,q⟩:=map_some e
 (injection q with hA hB;subst hA;subst hB);exact k a p h
theorem DQ {α:Type}{x:Option α}{g:α→Bool}{v:V}{b:Bool}{pu:Bool}{Q:Bool→Shared→Prop}{C:Prop}(e:x.map (fun a=>(V.bool (g a),σ₁))=some (v,σ')) (eb:ck v=some b) (h:iT N w h₀ pu σ' b φ s Q) (k:∀ a,x=some a→iT N w h₀ pu σ₁ (g a) φ s Q→C):C:=by
 obtain ⟨a,p,q⟩:=map_some e
 (injection q with hA hB;subst hA;subst hB);obtain rfl:=aaa eb;exact k a p h
theorem qI {α:Type}{x:Option (α×St)}{f:α×St→V×St}{v:V}{pu:Bool}{Q:Value→Shared→Prop}{C:Prop}(e:x.map f=some (v,σ')) (h:Aft N w h₀ pu σ' v φ s Q) (k:∀ a τ,x=some (a,τ)→Aft N w h₀ pu (f (a,τ)).2 (f (a,τ)).1 φ s Q→C):C:=by
 obtain ⟨a,p,q⟩:=map_some e
 refine k a.1 a.2 p ?_
 rw [show f (a.1,a.2)=(v,σ') from q];exact h
theorem FU {v:V}{x:Option (List V×St)}{vs:List V}{pu:Bool}{Q:List Value→Shared→Prop}{C:Prop}(e:x.map (fun q=>(v :: q.1,q.2))=some (vs,σ')) (h:zJ N w h₀ pu σ' vs φ s Q) (k:∀ l τ,x=some (l,τ)→zJ N w h₀ pu τ (v :: l) φ s Q→C):C:=by
 obtain ⟨a,p,q⟩:=map_some e
 (injection q with hA hB;subst hA;subst hB);exact k a.1 a.2 p h
theorem wh:(fy G prog w N h₀ ga ba n) []:=fun c env es ρ σ σ' vs φ s A E Q ok P e h=>by
 (injection e with hE;injection hE with hA hB;subst hA;subst hB)
 refine l7 (m:=fun es=>wpAny _ A (spliced (aV es env)) Q E s) ok ?_
 exact spliced_nil (h φ s.heap s.toks [] (.refl _ _ _) P.R (by rw [aN]))
theorem rI {x:X}{xs:List X}(hx:(ay G prog w N h₀ ga ba n) x) (hs:(fy G prog w N h₀ ga ba n) xs):(fy G prog w N h₀ ga ba n) (x :: xs):=fun c env es ρ σ σ' vs φ s A E Q ok P e h=>by
 refine iA (m:=fun es=>wpAny _ A (spliced (aV es env)) Q E s) ok fun e' r zz o1 o2=>?_
 refine aC e fun v1 σ1 e1 e=>?_;refine FU e h fun v2 σ2 e2 h=>?_
 refine spliced_cons (hx _ _ _ _ _ _ _ _ _ _ _ _ o1 P e1 fun φ1 h1 t1 u1 S1 R1 r1=>hs _ _ _ _ _ _ _ _ _ _ _ _ o2 (P.step S1 R1) e2 fun φ2 h2 t2 us S2 R2 r2=>?_)
 exact h φ2 h2 t2 _ (S1.trans R1 S2) R2 (by rw [aB];exact ⟨_,_,rfl,S2.rep r1,r2⟩)
theorem nq {α:Type}{a b:X}{v1 v2:V}{σ1:St}{c:Cx}{env:Env}{ea eb:Expr}{ρ:Rho}{σ σ2:St}{φ:Phi}{s:Shared}{A:Around}{E:Value→Shared→Prop}{Q:Value→Value→Shared→Prop}(ha:(ay G prog w N h₀ ga ba n) a) (hb:(ay G prog w N h₀ ga ba n) b) (oa:okX c a ea=true) (ob:okX c b eb=true)
 (P:Pre G N w h₀ ga ba n c env A ρ σ φ s) (e1:ev G ρ σ a=some (v1,σ1)) (e2:ev G ρ σ1 b=some (v2,σ2))
 (h:∀ φ' h' tk u1 u2,Stp (aK a&&aK b) φ s.heap φ' h'→Rel N w h₀ σ2 φ' h'→Rep w φ' h' v1 u1→Rep w φ' h' v2 u2→Q u1 u2 { s with heap:=h',toks:=tk}) :
 wpAny (model prog w) A (eval ea env) (fun u1 s1=>wpAny (model prog w) A (eval eb env) (fun u2 s2=>Q u1 u2 s2) E s1) E s :=
 ha _ _ _ _ _ _ _ _ _ _ _ _ oa P e1 fun φ1 h1 t1 u1 S1 R1 r1=>hb _ _ _ _ _ _ _ _ _ _ _ _ ob (P.step S1 R1) e2 fun φ2 h2 t2 u2 S2 R2 r2=>h φ2 h2 t2 u1 u2 (S1.trans R1 S2) R2 (S2.rep r1) r2
theorem FV {o:Bop}{a b:X}(ha:(ay G prog w N h₀ ga ba n) a) (hb:(ay G prog w N h₀ ga ba n) b):(ay G prog w N h₀ ga ba n) (.bin o a b):=fun c env e ρ σ σ' v φ s A E Q ok P e h=>by
 refine m8 (m:=fun z=>wpAny _ A (eval z env) Q E s) ok fun x op y p okk=>aI okk fun o1 oa ob=>eqE (m:=fun z=>wpAny _ A (eval (.BinOp x z y p) env) Q E s) o1 ?_
 refine aC e fun v1 σ1 e1 e=>?_;refine aC e fun v2 σ2 e2 e=>?_;refine fQ e h fun r e3 h=>?_
 exact wpAny_BinOp (nq (α:=Unit) ha hb oa ob P e1 e2 fun φ' h' tk u1 u2 S R r1 r2=>DB o R.mut_some e3 r1 r2 (h.fin S R id))
theorem FW {o:Cop}{a b:X}(ha:(ay G prog w N h₀ ga ba n) a) (hb:(ay G prog w N h₀ ga ba n) b):(ay G prog w N h₀ ga ba n) (.cmp o a b):=fun c env e ρ σ σ' v φ s A E Q ok P e h=>by
 refine j5 (m:=fun z=>wpAny _ A (eval z env) Q E s) ok fun x ops ys p k1=>cw (m:=fun z=>wpAny _ A (eval (.Compare x z ys p) env) Q E s) k1 fun op k2=>cw (m:=fun z=>wpAny _ A (eval (.Compare x [op] z p) env) Q E s) k2 fun y okk=>aI okk fun o1 oa ob=>aq o1 fun o1 om=>eqE (m:=fun z=>wpAny _ A (eval (.Compare x [z] [y] p) env) Q E s) o1 ?_
 have om:=bE (eq_of_beq o1▸om)
 refine aC e fun v1 σ1 e1 e=>?_;refine aC e fun v2 σ2 e2 e=>?_;refine fQ e h fun r e3 h=>?_
 exact wpAny_Compare1 (nq (α:=Unit) ha hb oa ob P e1 e2 fun φ' h' tk u1 u2 S R r1 r2=>xY o (uOk P.a) e3 r1 r2 fun k=>h _ _ _ _ S R (rC _ _)) om
theorem FX {o:Cop}{a b:X}(ha:(ay G prog w N h₀ ga ba n) a) (hb:(ay G prog w N h₀ ga ba n) b):(dL G prog w N h₀ ga ba n) (.cmp o a b):=fun c env e ρ σ σ' v b' φ s A E Q ok P e eb h=>by
 refine j5 (m:=fun z=>wpAny _ A (isTrue z env (eval z env)) Q E s) ok fun x ops ys p k1=>cw (m:=fun z=>wpAny _ A (isTrue (.Compare x z ys p) env (eval (.Compare x z ys p) env)) Q E s) k1 fun op k2=>cw (m:=fun z=>wpAny _ A (isTrue (.Compare x [op] z p) env (eval (.Compare x [op] z p) env)) Q E s) k2 fun y okk=>aI okk fun o1 oa ob=>aq o1 fun o1 om=>eqE (m:=fun z=>wpAny _ A (isTrue (.Compare x [z] [y] p) env (eval (.Compare x [z] [y] p) env)) Q E s) o1 ?_
 have om:=bE (eq_of_beq o1▸om)
 refine aC e fun v1 σ1 e1 e=>?_;refine aC e fun v2 σ2 e2 e=>?_;refine DQ e eb h fun r e3 h=>?_
 exact wpAny_isTrue_Compare1 (nq (α:=Unit) ha hb oa ob P e1 e2 fun φ' h' tk u1 u2 S R r1 r2=>xY o (uOk P.a) e3 r1 r2 fun k=>wpAny_truthy_bool (h _ _ _ S R)) om
noncomputable def aD (k:Nat):Bool:=!(k==0)&&!(k==3)&&!(k==5)&&!(k==15)
theorem rJ {e:Expr}(h:aD e.ctorIdx=true) (env:Env):isTrue e env (eval e env)=(do let v ← eval e env;standAt e.pos;holding [v] (truthy v)):=by
 cases e<;>first | rfl | injection h
theorem c6 {x:X}(hx:(ay G prog w N h₀ ga ba n) x) (he:∀ c e,okX c x e=true→aD e.ctorIdx=true):(dL G prog w N h₀ ga ba n) x:=fun c env e ρ σ σ' v b φ s A E Q ok P e1 eb h =>
 wpAny_isTrue_value (hx _ _ _ _ _ _ _ _ _ _ _ _ ok P e1 fun φ' h' tk u S R r=>kb eb r (h φ' h' tk S R)) (rJ (he c e ok) env)
theorem FY {a:X}(ha:(ay G prog w N h₀ ga ba n) a):(ay G prog w N h₀ ga ba n) (.not a):=fun c env e ρ σ σ' v φ s A E Q ok P e h=>by
 refine ft (m:=fun z=>wpAny _ A (eval z env) Q E s) ok fun op x p okk=>aq okk fun o1 oa=>eqE (m:=fun z=>wpAny _ A (eval (.UnaryOp z x p) env) Q E s) o1 ?_
 refine aC e fun v1 σ1 e1 e=>?_;refine fQ e h fun r e3 h=>?_
 exact wpAny_UnaryOp (ha _ _ _ _ _ _ _ _ _ _ _ _ oa P e1 fun φ' h' tk u S R r1=>not_of (kb e3 r1 (h _ _ _ _ S R (rC _ _))))
theorem FZ {a:X}(ha:(dL G prog w N h₀ ga ba n) a):(dL G prog w N h₀ ga ba n) (.not a):=fun c env e ρ σ σ' v b φ s A E Q ok P e eb h=>by
 refine ft (m:=fun z=>wpAny _ A (isTrue z env (eval z env)) Q E s) ok fun op x p okk=>aq okk fun o1 oa=>eqE (m:=fun z=>wpAny _ A (isTrue (.UnaryOp z x p) env (eval (.UnaryOp z x p) env)) Q E s) o1 ?_
 refine aC e fun v1 σ1 e1 e=>?_;refine DQ e eb h fun r e3 h=>?_
 exact wpAny_isTrue_Not (ha _ _ _ _ _ _ _ _ _ _ _ _ _ oa P e1 e3 fun φ' h' tk S R=>h _ _ _ S R)
theorem Bm {a:X}(ha:(ay G prog w N h₀ ga ba n) a):(ay G prog w N h₀ ga ba n) (.neg a):=fun c env e ρ σ σ' v φ s A E Q ok P e h=>by
 refine ft (m:=fun z=>wpAny _ A (eval z env) Q E s) ok fun op x p okk=>aq okk fun o1 oa=>eqE (m:=fun z=>wpAny _ A (eval (.UnaryOp z x p) env) Q E s) o1 ?_
 refine aC e fun v1 σ1 e1 e=>?_
 split at e<;>cases e
 rename_i i q
 dsimp only at q;subst q
 refine wpAny_UnaryOp (ha _ _ _ _ _ _ _ _ _ _ _ _ oa P e1 fun φ' h' tk u S R r1=>?_)
 rw [cW] at r1;obtain ⟨t,rfl⟩:=r1
 exact PySem.P.neg_int (h _ _ _ _ S R (by rw [cW];exact ⟨_,rfl⟩))
theorem F5 {a b d:X}(ha:(dL G prog w N h₀ ga ba n) a) (hb:(ay G prog w N h₀ ga ba n) b) (hd:(ay G prog w N h₀ ga ba n) d):(ay G prog w N h₀ ga ba n) (.ife a b d):=fun c env e ρ σ σ' v φ s A E Q ok P e h=>by
 refine m9 (m:=fun z=>wpAny _ A (eval z env) Q E s) ok fun x y z p okk=>aI okk fun oa ob od=>?_
 refine aC e fun v1 σ1 e1 e=>?_;refine bq e fun t e2 e=>?_
 refine wpAny_IfExp (ha _ _ _ _ _ _ _ _ _ _ _ _ _ oa P e1 e2 fun φ1 h1 t1 S1 R1=>?_)
 have le:aK (.ife a b d)=true→aK a=true∧aK b=true∧aK d=true:=fun z=>by
  have z:=ew z;exact ⟨z.1.1,z.1.2,z.2⟩
 cases t with
 | true=>exact hb _ _ _ _ _ _ _ _ _ _ _ _ ob (P.step S1 R1) e (h.then S1 R1 fun z=>⟨(le z).1,(le z).2.1⟩)
 | false=>exact hd _ _ _ _ _ _ _ _ _ _ _ _ od (P.step S1 R1) e (h.then S1 R1 fun z=>⟨(le z).1,(le z).2.2⟩)
theorem iT.then {p q pu:Bool}{b:Bool}{Q:Bool→Shared→Prop}{tk:Tok}(h:iT N w h₀ pu σ' b φ s Q) (S:Stp p φ s.heap φ₁ h₁) (R:Rel N w h₀ σ₁ φ₁ h₁) (le:pu=true→p=true∧q=true):iT N w h₀ q σ' b φ₁ { s with heap:=h₁,toks:=tk} Q:=fun φ' h' tk S' R' =>
 h φ' h' tk ((S.trans R S').of fun e=>by rw [(le e).1,(le e).2];rfl) R'
theorem F7 {a b d:X}(ha:(dL G prog w N h₀ ga ba n) a) (hb:(dL G prog w N h₀ ga ba n) b) (hd:(dL G prog w N h₀ ga ba n) d):(dL G prog w N h₀ ga ba n) (.ife a b d):=fun c env e ρ σ σ' v b' φ s A E Q ok P e eb h=>by
 refine m9 (m:=fun z=>wpAny _ A (isTrue z env (eval z env)) Q E s) ok fun x y z p okk=>aI okk fun oa ob od=>?_
 refine aC e fun v1 σ1 e1 e=>?_;refine bq e fun t e2 e=>?_
 have le:aK (.ife a b d)=true→aK a=true∧aK b=true∧aK d=true:=fun z=>by
  have z:=ew z;exact ⟨z.1.1,z.1.2,z.2⟩
 refine wpAny_bind (ha _ _ _ _ _ _ _ _ _ _ _ _ _ oa P e1 e2 fun φ1 h1 t1 S1 R1=>?_)
 cases t with
 | true=>exact hb _ _ _ _ _ _ _ _ _ _ _ _ _ ob (P.step S1 R1) e eb (iT.then h S1 R1 fun z=>⟨(le z).1,(le z).2.1⟩)
 | false=>exact hd _ _ _ _ _ _ _ _ _ _ _ _ _ od (P.step S1 R1) e eb (iT.then h S1 R1 fun z=>⟨(le z).1,(le z).2.2⟩)
theorem F8 {a b:X}(ha:(ay G prog w N h₀ ga ba n) a) (hb:(ay G prog w N h₀ ga ba n) b):(ay G prog w N h₀ ga ba n) (.idx a b):=fun c env e ρ σ σ' v φ s A E Q ok P e h=>by
 refine d9 (m:=fun z=>wpAny _ A (eval z env) Q E s) ok fun x y p okk=>aI okk fun os oa ob=>?_
 refine aC e fun v1 σ1 e1 e=>?_;refine aC e fun v2 σ2 e2 e=>?_;refine fQ e h fun r e3 h=>?_
 exact Subscript_ (nq (α:=Unit) ha hb oa ob P e1 e2 fun φ' h' tk u1 u2 S R r1 r2=>DD (DP (bE os)) e3 r1 r2 (h.fin S R id))
end
section
variable {N:aH}{prog:Program}{w:World}{h₀ h h' h₁:Heap}{σ σ' σ₁ σ₂:St}{φ φ' φ₁ φ₂:Phi}{env:Env}{vars:List Str}{ρ:Rho}{A:Around}{E:Value→Shared→Prop}{s:Shared}{G:Sg}{K:Frag}{ga ba:Addr}{n:Nat}{c:Cx}
theorem Ho {x:Option V}{v:V}{pu:Bool}{Q:Value→Shared→Prop}{C:Prop}(e:x.map (fun a=>(a,σ₁))=some (v,σ')) (h:Aft N w h₀ pu σ' v φ s Q) (k:∀ a,x=some a→Aft N w h₀ pu σ₁ a φ s Q→C):C:=fQ e h k
theorem Bn:(ay G prog w N h₀ ga ba n) .non:=fun c env e ρ σ σ' v φ s A E Q ok P e1 h=>by
 refine cM (m:=fun z=>wpAny _ A (eval z env) Q E s) ok fun k zz zz okk=>?_
 cases k<;>try (injection okk;done)
 (injection e1 with hE;injection hE with hA hB;subst hA;subst hB)
 exact wpAny_pure (h φ s.heap s.toks _ (.refl _ _ _) P.R (by rw [eY]))
theorem yd {b:Bool} : (ay G prog w N h₀ ga ba n) (.bool b):=fun c env e ρ σ σ' v φ s A E Q ok P e1 h=>by
 refine cM (m:=fun z=>wpAny _ A (eval z env) Q E s) ok fun k x p k1=>wc (m:=fun z=>wpAny _ A (eval (.Constant z x p) env) Q E s) k1 fun b' okk=>DO (m:=fun z=>wpAny _ A (eval (.Constant (.bool z) x p) env) Q E s) okk ?_
 (injection e1 with hE;injection hE with hA hB;subst hA;subst hB)
 exact wpAny_pure (h φ s.heap s.toks _ (.refl _ _ _) P.R (by rw [dG]))
theorem Bo {i:Int} : (ay G prog w N h₀ ga ba n) (.int i):=fun c env e ρ σ σ' v φ s A E Q ok P e1 h=>by
 refine cM (m:=fun z=>wpAny _ A (eval z env) Q E s) ok fun k x p k1=>xV (m:=fun z=>wpAny _ A (eval (.Constant z x p) env) Q E s) k1 fun b' okk=>DO (m:=fun z=>wpAny _ A (eval (.Constant (.int z) x p) env) Q E s) okk ?_
 (injection e1 with hE;injection hE with hA hB;subst hA;subst hB)
 exact wpAny_Constant_int (h φ s.heap _ _ (.refl _ _ _) P.R (by rw [cW];exact ⟨_,rfl⟩))
theorem Bp {l:List Nat} : (ay G prog w N h₀ ga ba n) (.str l):=fun c env e ρ σ σ' v φ s A E Q ok P e1 h=>by
 refine cM (m:=fun z=>wpAny _ A (eval z env) Q E s) ok fun k x p k1=>xX (m:=fun z=>wpAny _ A (eval (.Constant z x p) env) Q E s) k1 fun b' okk=>aI okk fun o1 hl ha=>eqE (m:=fun z=>wpAny _ A (eval (.Constant (.str z) x p) env) Q E s) o1 ?_
 (injection e1 with hE;injection hE with hA hB;subst hA;subst hB)
 exact Constant_str (h φ s.heap _ _ (.refl _ _ _) P.R (by rw [dB];exact ⟨⟨aaf (of_decide_eq_true hl) (by decide),fun x hx=>of_decide_eq_true (aab.mp ha x hx)⟩,_,rfl⟩))
theorem wj {i:Nat} : (ay G prog w N h₀ ga ba n) (.loc i):=fun c env e ρ σ σ' v φ s A E Q ok P e1 h=>by
 refine bu (m:=fun z=>wpAny _ A (eval z env) Q E s) ok fun x p okk=>aI okk fun hv hk hd=>?_
 refine bq e1 fun v' q e2=>Ho e2 h fun v e2 h=>?_
 rw [e2] at q
 exact wpAny_Name (P.F.load q (eq_of_beq hv) (P.cx.sc▸hk) fun u r=>h φ s.heap s.toks u (.refl _ _ _) P.R r) (bE hd)
theorem ye {i:Nat}(B:bD G prog w N h₀ K ga ba n):(ay G prog w N h₀ ga ba n) (.glob i):=fun c env e ρ σ σ' v φ s A E Q ok P e1 h=>by
 refine bu (m:=fun z=>wpAny _ A (eval z env) Q E s) ok fun x p okk=>aq okk fun hv hk=>?_
 rw [P.cx.P] at hv
 refine fQ e1 h fun g q h=>j8 hv fun g' q' hv=>?_
 obtain rfl:=aaa (q.symm.trans q')
 cases eq_of_beq hv
 obtain ⟨u,gl,r⟩:=B.gl i g q
 exact gl.name P.R.base P.cx.ga P.cx.ba P.F.fn (P.cx.sc▸hk) (h φ s.heap s.toks u (.refl _ _ _) P.R (rA P.R r))
theorem u6 {x:X}{v:V}(e:ev G ρ σ x=some (v,σ')):evs G ρ σ [x]=some ([v],σ'):=by
 show (ev G ρ σ x).bind _=_
 rw [e];rfl
theorem rK {h:Heap}{v:V}{us:List Value}(r:Reps w φ h [v] us):∃ u,us=[u]∧Rep w φ h v u:=by
 rw [aB] at r
 obtain ⟨u,us',rfl,r,q⟩:=r
 rw [aN] at q;subst q;exact ⟨u,rfl,r⟩
theorem nt {x:X}(h:aK x=true):pureXs [x]=true:=by show (aK x&&true)=true;rw [h];rfl
theorem Cb {m:Sm}{a b v:V}(e:smV m a b=some v):∃ l,a = .str l:=cY (m:=fun a=>∃ l,a = .str l) e fun l zz=>⟨l,rfl⟩
theorem yf {x:X}{o:Option Expr}(hx:(ay G prog w N h₀ ga ba n) x) (c:Cx) (env:Env) (ρ:Rho) (σ σ':St) (v:V) (φ:Phi) (s:Shared) (A:Around) (E:Value→Shared→Prop) (Q:Value→Shared→Prop)
 (ok:(match o with | some e=>okX c x e | none=>qG x)=true) (P:Pre G N w h₀ ga ba n c env A ρ σ φ s) (e:ev G ρ σ x=some (v,σ')) (h:Aft N w h₀ (aK x) σ' v φ s Q):wpAny (model prog w) A (evalPart o env) Q E s:=by
 cases o with
 | some e'=>exact hx _ _ _ _ _ _ _ _ _ _ _ _ ok P e h
 | none =>
  revert e h
  refine zI (m:=fun x=>ev G ρ σ x=some (v,σ')→Aft N w h₀ (aK x) σ' v φ s Q→wpAny (model prog w) A (evalPart none env) Q E s) ok fun e h=>?_
  (injection e with hE;injection hE with hA hB;subst hA;subst hB)
  exact wpAny_pure (h φ s.heap s.toks _ (.refl _ _ _) P.R (by rw [eY]))
theorem F9 {a b d:X}(ha:(ay G prog w N h₀ ga ba n) a) (hb:(ay G prog w N h₀ ga ba n) b) (hd:(ay G prog w N h₀ ga ba n) d):(ay G prog w N h₀ ga ba n) (.slc a b d):=fun c env e ρ σ σ' v φ s A E Q ok P e h=>by
 refine d9 (m:=fun z=>wpAny _ A (eval z env) Q E s) ok fun x y p k1=>wb (m:=fun z=>wpAny _ A (eval (.Subscript x z p) env) Q E s) k1 fun lo' hi' st q k2=>aq k2 fun k3 k4=>aI k4 fun oa ob od=>?_
 cases Option.isNone_iff_eq_none.mp k3
 refine aC e fun v1 σ1 e1 e=>?_;refine aC e fun v2 σ2 e2 e=>?_;refine aC e fun v3 σ3 e3 e=>?_
 refine bq e fun lo p1 e=>?_;refine bq e fun hi p2 e=>?_;refine fQ e h fun r e4 h=>?_
 dsimp only at p1 p2 e4
 refine Subscript_ (ha _ _ _ _ _ _ _ _ _ _ _ _ oa P e1 fun φ1 h1 t1 u1 S1 R1 r1=>wpAny_Slice ?_)
 refine yf hb _ _ _ _ _ _ _ _ _ _ _ ob (P.step S1 R1) e2 fun φ2 h2 t2 u2 S2 R2 r2=>?_
 refine yf hd _ _ _ _ _ _ _ _ _ _ _ od ((P.step S1 R1).step S2 R2) e3 fun φ3 h3 t3 u3 S3 R3 r3=>?_
 rw [evalPart_none]
 refine wpAny_pure ?_
 have S:=(S1.trans R1 S2).trans R2 S3
 have fin:=h.fin (tk:=t3) S R3 id
 exact zx (s:={ s with heap:=h3,toks:=t3}) R3.mut_some e4 (S3.rep (S2.rep r1)) (uY p1 (S3.rep r2)) (uY p2 r3) (fun zz zz=>rfl) fin
theorem yg {xs:List X}{vs:List V}{us:List Value}{h:Heap}(e:evs G ρ σ xs=some (vs,σ')) (l:xs.length≤1000) (r:Reps w φ h vs us):vs.length≤big∧us.length≤sizeLine:=by
 have e1:=uZ e
 have e2:=r.len
 have:=hY
 have:(1000:Nat)≤big:=by decide
 lia
theorem Ga {xs:List X}(hs:(fy G prog w N h₀ ga ba n) xs):(ay G prog w N h₀ ga ba n) (.lst xs):=fun c env e ρ σ σ' v φ s A E Q ok P e h=>by
 refine j7 (m:=fun z=>wpAny _ A (eval z env) Q E s) ok fun es p okk=>aq okk fun oa ol=>?_
 have ol:=of_decide_eq_true ol
 refine qI e h fun vs σ1 e1 h=>?_
 refine wpAny_List ?_
 rw [fw (gi oa).1]
 refine hs _ _ _ _ _ _ _ _ _ _ _ _ oa P e1 fun φ1 h1 t1 us S1 R1 r1=>?_
 obtain ⟨l1,l2⟩:=yg e1 ol r1
 exact ⟨l2,(h.fin (tk:=t1) S1 R1 id) _ _ _ (Ext.push _ _) (j3 R1.mut_some l1 r1)⟩
theorem Gb {xs:List X}(hs:(fy G prog w N h₀ ga ba n) xs):(ay G prog w N h₀ ga ba n) (.tup xs):=fun c env e ρ σ σ' v φ s A E Q ok P e h=>by
 refine gI (m:=fun z=>wpAny _ A (eval z env) Q E s) ok fun es k p okk=>aq okk fun oa ol=>?_
 have ol:=of_decide_eq_true ol
 refine qI e h fun vs σ1 e1 h=>?_
 refine wpAny_Tuple ?_
 rw [fw (gi oa).1]
 refine hs _ _ _ _ _ _ _ _ _ _ _ _ oa P e1 fun φ1 h1 t1 us S1 R1 r1=>?_
 obtain ⟨l1,l2⟩:=yg e1 ol r1
 exact ⟨l2,(h.fin (tk:=t1) S1 R1 id) _ _ _ (Ext.push _ _) (tN R1.mut_some l1 r1)⟩
theorem DR {a:X}{m:Nat}(B:bD G prog w N h₀ K ga ba n) (ha:(ay G prog w N h₀ ga ba n) a):(ay G prog w N h₀ ga ba n) (.attr a m):=fun c env e ρ σ σ' v φ s A E Q ok P e h=>by
 refine bV (m:=fun z=>wpAny _ A (eval z env) Q E s) ok fun x nm p okk=>aI okk fun ob o1 oa=>eqE (m:=fun z=>wpAny _ A (eval (.Attribute x z p) env) Q E s) o1 ?_
 refine aC e fun v1 σ1 e1 e=>?_;refine fQ e h fun r e3 h=>?_
 rw [arm_eval_Attribute,o9 ob]
 refine wpAny_bind (ha _ _ _ _ _ _ _ _ _ _ _ _ oa P e1 fun φ1 h1 t1 u1 S1 R1 r1=>wpAny_bind (wpAny_standAt (wpAny_bind (wpAny_holding ?_))))
 rw [P.cx.P,B.an]
 exact uX (s:={ s with heap:=h1,toks:=t1}) B R1 e3 r1 fun v' h' k x r=>wpAny_bind (wpAny_letTemporaryGo (wpAny_pure ((h.fin (tk:=t1) S1 R1 id) v' h' k x r)))
theorem Bq {k:Nat}(B:bD G prog w N h₀ K ga ba n):(ay G prog w N h₀ ga ba n) (.cat k):=fun c env e ρ σ σ' v φ s A E Q ok P e1 h=>by
 refine bV (m:=fun z=>wpAny _ A (eval z env) Q E s) ok fun x nm p k1=>bu (m:=fun z=>wpAny _ A (eval (.Attribute z nm p) env) Q E s) k1 fun x q okk=>aq okk fun hv hk=>?_
 rw [P.cx.P] at hv
 refine fQ e1 h fun q hq h=>j8 hv fun g' q' hv=>?_
 obtain rfl:=aaa (hq.symm.trans q')
 refine aq hv fun h1 h2=>?_
 cases eq_of_beq h1;cases eq_of_beq h2
 obtain ⟨mc,u,gl,hr,hf,hh,r⟩:=B.cat k q hq
 rw [arm_eval_Attribute,o9 rfl]
 refine wpAny_bind (gl.name P.R.base P.cx.ga P.cx.ba P.F.fn (P.cx.sc▸hk) (wpAny_bind (wpAny_standAt (wpAny_bind (wpAny_holding ?_)))))
 exact cls_value (B.X.keeps P.R.base) hr hf hh (wpAny_bind (wpAny_letTemporaryGo (wpAny_pure (h φ s.heap _ u (.refl _ _ _) P.R (rA P.R r)))))
theorem ph {xs:List X}{c:Cx}{env:Env}{es:List Expr}{nm:Str}{p pos:Pos}{ρ:Rho}{σ σ':St}{vs:List V}{φ:Phi}{s:Shared}{A:Around}{E:Value→Shared→Prop}{Q:Value→Shared→Prop}{u:Value}(hs:(fy G prog w N h₀ ga ba n) xs) (oa:okXs c xs es=true) (hk:fq c.sc nm=true)
 (P:Pre G N w h₀ ga ba n c env A ρ σ φ s) (g:dW h₀ ga ba nm u) (e1:evs G ρ σ xs=some (vs,σ'))
 (hc:∀ Q',wpAny (model prog w) A (spliced (aV es env)) (fun us s1=>Ext h₀ s1.heap∧wpAny (model prog w) A (call u us) Q' E s1) E s→wpAny (model prog w) A (callWith pos u [] (aV es env) []) Q' E s)
 (h:∀ φ1 h1 t1 us,Stp (pureXs xs) φ s.heap φ1 h1→Rel N w h₀ σ' φ1 h1→Reps w φ1 h1 vs us→wpAny (model prog w) A (call u us) Q E { s with heap:=h1,toks:=t1}) :
 wpAny (model prog w) A (eval (.Call (.Name nm p) es [] pos) env) Q E s :=
 rB (gi oa).1 (g.name P.R.base P.cx.ga P.cx.ba P.F.fn (P.cx.sc▸hk) (hc _ (hs _ _ _ _ _ _ _ _ _ _ _ _ oa P e1 fun φ1 h1 t1 us S1 R1 r1=>⟨R1.base,h φ1 h1 t1 us S1 R1 r1⟩)))
theorem Hp {b:Bi}{xs:List X}(B:bD G prog w N h₀ K ga ba n) (hs:(fy G prog w N h₀ ga ba n) xs):(ay G prog w N h₀ ga ba n) (.bi b xs):=fun c env e ρ σ σ' v φ s A E Q ok P e h=>by
 refine cq (m:=fun z=>wpAny _ A (eval z env) Q E s) ok fun x p es q okk=>aI okk fun o1 hk oa=>?_
 cases eq_of_beq o1
 refine aC e fun vs σ1 e1 e=>?_;refine fQ e h fun r e3 h=>?_
 exact ph hs oa hk P (B.bi b) e1 (fun Q' hq=>wd (wpAny_mono hq (fun zz zz z=>z.2) fun zz zz z=>z)) fun φ1 h1 t1 us S1 R1 r1=>FR b P.a.1 e3 r1 (h.fin S1 R1 id)
theorem Gc {xs:List X}(B:bD G prog w N h₀ K ga ba n) (hs:(fy G prog w N h₀ ga ba n) xs):(ay G prog w N h₀ ga ba n) (.rng xs):=fun c env e ρ σ σ' v φ s A E Q ok P e h=>by
 refine cq (m:=fun z=>wpAny _ A (eval z env) Q E s) ok fun x p es q okk=>aI okk fun o1 hk oa=>?_
 cases eq_of_beq o1
 refine aC e fun vs σ1 e1 e=>?_;refine fQ e h fun r e3 h=>?_
 exact ph hs oa hk P B.rg e1 (fun Q' hq=>FT (wpAny_mono hq (fun zz zz z=>z.2) fun zz zz z=>z)) fun φ1 h1 t1 us S1 R1 r1=>DM R1.mut_some e3 r1 (h.fin S1 R1 id)
theorem Hq {m:Sm}{a b:X}(ha:(ay G prog w N h₀ ga ba n) a) (hb:(ay G prog w N h₀ ga ba n) b):(ay G prog w N h₀ ga ba n) (.sm m a b):=fun c env e ρ σ σ' v φ s A E Q ok P e h=>by
 refine fu (m:=fun z=>wpAny _ A (eval z env) Q E s) ok fun o nm ap es p k1=>cw (m:=fun z=>wpAny _ A (eval (.Call (.Attribute o nm ap) z [] p) env) Q E s) k1 fun x okk=>aI okk fun o1 oa ob=>aI o1 fun o1 hl hst=>aq o1 fun obs o1=>eqE (m:=fun z=>wpAny _ A (eval (.Call (.Attribute o z ap) [x] [] p) env) Q E s) o1 ?_
 refine aC e fun v1 σ1 e1 e=>?_;refine aC e fun v2 σ2 e2 e=>?_;refine fQ e h fun r e3 h=>?_
 dsimp only at e3
 refine ka obs (by rw [List.all_cons,hst];rfl) (by decide:(1:Nat)<29) hl (ha _ _ _ _ _ _ _ _ _ _ _ _ oa P e1 fun φ1 h1 t1 u1 S1 R1 r1 pl=>?_)
 obtain ⟨l,rfl⟩:∃ l,v1 = .str l:=Cb e3
 refine zK (y:=v2) (r:=v2) (x:=v2) m r1 (wd (rI hb wh _ _ _ _ _ σ2 [v2] _ _ _ _ _ (rr hst ob) (P.step S1 R1) (u6 e2) fun φ2 h2 t2 us S2 R2 r2=>?_))
 obtain ⟨u2,rfl,r2'⟩:=rK r2
 exact FS m e3 (S2.rep r1) r2' (h.fin (S1.trans R1 S2) R2 fun z=>aq z fun a b=>show (_&&pureXs [_])=true by rw [a,nt b];rfl)
theorem DS {f:Nat}{xs:List X}(B:bD G prog w N h₀ K ga ba n) (hs:(fy G prog w N h₀ ga ba n) xs):(ay G prog w N h₀ ga ba n) (.call f xs):=fun c env e ρ σ σ' v φ s A E Q ok P e h=>by
 refine cq (m:=fun z=>wpAny _ A (eval z env) Q E s) ok fun x p es q okk=>aI okk fun hf hk oa=>?_
 have hf:=eq_of_beq hf
 rw [P.cx.P] at hf
 refine aC e fun vs σ1 e1 e=>?_;refine fQ e h fun r e3 h=>?_
 obtain ⟨a,g,hi,hp⟩:=B.fn f _ hf
 exact ph hs oa hk P g e1 (fun Q' hq=>Bl hi hq) fun φ1 h1 t1 us S1 R1 r1=>hp.call A E _ _ φ1 vs us _ Q P.a (S1.fr P.fr) R1 r1 e3 (h.then S1 R1 fun z=>⟨z,rfl⟩)
theorem wk {σ:St}{o:V}{m:Nat}{vs:List V}{r:V×St}(e:wa G σ o m vs=some r):∃ k C fs f,o = .obj k∧σ[k]? = some (.inst C fs)∧(co fs m).isNone=true∧G.P.meth C m=some f∧G.Φ f (.obj k :: vs) σ=some r:=by
 obtain ⟨k,rfl⟩:∃ k,o = .obj k:=by cases o<;>first | exact ⟨_,rfl⟩ | exact bH e
 unfold wa at e
 dsimp only at e
 cases q:σ[k]? with
 | none=>rw [q] at e;injection e
 | some ob =>
  rw [q] at e
  cases ob with
  | inst C fs =>
   dsimp only at e
   by_cases hn:(co fs m).isNone=true
   ·rw [if_pos hn] at e
    obtain ⟨f,hm,e⟩:=bind_some e
    exact ⟨k,C,fs,f,rfl,q,hn,hm,e⟩
   ·rw [if_neg hn] at e;injection e
theorem DT {a:X}{m:Nat}{xs:List X}(B:bD G prog w N h₀ K ga ba n) (ha:(ay G prog w N h₀ ga ba n) a) (hs:(fy G prog w N h₀ ga ba n) xs):(ay G prog w N h₀ ga ba n) (.meth a m xs):=fun c env e ρ σ σ' v φ s A E Q ok P e h=>by
 refine fu (m:=fun z=>wpAny _ A (eval z env) Q E s) ok fun o nm ap es p okk=>aI okk fun o1 oa oxs=>aI o1 fun o1 hlen hpu=>aI o1 fun obs o1 hl=>eqE (m:=fun z=>wpAny _ A (eval (.Call (.Attribute o z ap) es [] p) env) Q E s) o1 ?_
 have hlen:=of_decide_eq_true hlen
 refine aC e fun v1 σ1 e1 e=>?_;refine aC e fun vs σ2 e2 e=>?_
 have:=pure_sts hpu e2;subst this
 dsimp only at e
 obtain ⟨k,C,fs,f,rfl,hk,hn,hm,e⟩:=wk e
 refine ka obs (gi oxs).1 hlen hl (ha _ _ _ _ _ _ _ _ _ _ _ _ oa P e1 fun φ1 h1 t1 u1 S1 R1 r1 pl=>?_)
 have r1':=r1
 rw [hS] at r1
 obtain ⟨q,hq,rfl⟩:=r1
 rw [P.cx.P,B.an]
 refine xZ (s:={ s with heap:=h1,toks:=t1}) B R1 hk hq (by simpa using hn) hm fun af hi hfn=>Bl hi (hs _ _ _ _ _ _ _ _ _ _ _ _ oxs (P.step S1 R1) e2 fun φ2 h2 t2 us S2 R2 r2=>⟨R2.base,?_⟩)
 exact hfn.call A E _ _ _ φ2 (.obj k :: vs) (.ref q.1 :: us) _ Q P.a (S2.fr (S1.fr P.fr)) R2 (by rw [aB];exact ⟨_,_,rfl,S2.rep r1',r2⟩) e (h.then (S1.trans R1 S2) R2 fun z=>by injection z)
theorem Gd {k:Nat}(B:bD G prog w N h₀ K ga ba n) (M:we prog w G N h₀ K ga ba n):(ay G prog w N h₀ ga ba n) (.new k):=fun c env e ρ σ σ' v φ s A E Q ok P e h=>by
 refine cq (m:=fun z=>wpAny _ A (eval z env) Q E s) ok fun x p es p' k1=>aq k1 fun k2 k3=>cO (m:=fun z=>wpAny _ A (eval (.Call (.Name x p) z [] p') env) Q E s) k2 (aq k3 fun hf hk=>?_)
 rw [P.cx.P] at hf
 refine j8 hf fun q hq hf=>?_
 cases eq_of_beq hf
 obtain ⟨g,fI,hm,hkp,_⟩:=B.cl k q hq
 refine rB (es:=[]) rfl (g.name P.R.base P.cx.ga P.cx.ba P.F.fn (P.cx.sc▸hk) ?_)
 have X:K.In s.heap:=B.X.keeps P.R.base
 refine callWith_of (P:=fun h=>K.In h) rfl (keeps_K hkp) (fv rfl ?_)
 exact spliced_nil ⟨X,M A E s σ σ' φ k v q Q P.a P.fr P.R hq e h⟩
end
section
variable {N:aH}{prog:Program}{w:World}{h₀ h h' h₁:Heap}{σ σ' σ₁ σ₂:St}{φ φ' φ₁ φ₂:Phi}{env:Env}{vars:List Str}{ρ:Rho}{A:Around}{E:Value→Shared→Prop}{s:Shared}{G:Sg}{K:Frag}{ga ba:Addr}{n:Nat}{c:Cx}
theorem yh:∀ {t u:Bool},¬ t=u→(!u)=t
 | false,false,h=>absurd rfl h
 | true,true,h=>absurd rfl h
 | false,true,_=>rfl
 | true,false,_=>rfl
theorem Cc {u t b:Bool}{σ1:St}(e:(if t=u then evC G u ρ σ1 [] else some (!u,σ1))=some (b,σ')):b=t∧σ'=σ1:=by
 by_cases q:t=u
 ·rw [if_pos q] at e;(injection e with hE;injection hE with hA hB;subst hA;subst hB);exact ⟨q.symm,rfl⟩
 ·rw [if_neg q] at e;(injection e with hE;injection hE with hA hB;subst hA;subst hB);exact ⟨yh q,rfl⟩
theorem DU {x:X}{xs:List X}(hx:(ay G prog w N h₀ ga ba n) x) (hs:(kT G prog w N h₀ ga ba n) xs):(kT G prog w N h₀ ga ba n) (x :: xs):=fun c env es pos u ρ σ σ' b φ s A E Q ok ne P e h=>by
 refine iA (m:=fun es=>wpAny _ A (boolOp pos (if u then .And else .Or) (evalEach es env)) Q E s) ok fun e' r zz o1 o2=>?_
 refine aC e fun v1 σ1 e1 e=>?_;refine bq e fun t e2 e4=>?_
 dsimp only at e2 e4
 clear e
 have le:pureXs (x :: xs)=true→aK x=true∧pureXs xs=true:=fun z=>bn z
 cases xs with
 | nil =>
  refine l7 (m:=fun r=>wpAny _ A (boolOp pos (if u then .And else .Or) (evalEach (e' :: r) env)) Q E s) o2 ?_
  refine B9 (hx _ _ _ _ _ _ _ _ _ _ _ _ o1 P e1 fun φ1 h1 t1 u1 S1 R1 r1=>?_)
  obtain ⟨rfl,rfl⟩:=rH e2 r1
  obtain ⟨rfl,rfl⟩:=Cc e4
  exact h φ1 h1 t1 _ (S1.of fun z=>(le z).1) R1 r1
 | cons y ys =>
  have o2':=o2
  refine iA (m:=fun r=>okXs c (y :: ys) r=true→wpAny _ A (boolOp pos (if u then .And else .Or) (evalEach (e' :: r) env)) Q E s) o2 (fun e'' r zz zz zz o2=>?_) o2'
  refine Ca (hx _ _ _ _ _ _ _ _ _ _ _ _ o1 P e1 fun φ1 h1 t1 u1 S1 R1 r1=>?_)
  obtain ⟨rfl,rfl⟩:=rH e2 r1
  refine ⟨t,rfl,?_⟩
  split
  ·rename_i q
   rw [if_pos q] at e4
   exact hs _ _ _ _ _ _ _ _ _ _ _ _ _ _ o2 rfl (P.step S1 R1) e4 (h.then S1 R1 le)
  ·rename_i q
   rw [if_neg q] at e4
   (injection e4 with hE;injection hE with hA hB;subst hA;subst hB)
   have:(!u)=t:=yh q
   rw [this] at h
   exact h φ1 h1 t1 _ (S1.of fun z=>(le z).1) R1 r1
theorem Ge:(kT G prog w N h₀ ga ba n) []:=fun c env es pos u ρ σ σ' b φ s A E Q ok ne P e h=>by injection ne
theorem Gf:(kU G prog w N h₀ ga ba n) []:=fun c env es u ρ σ σ' b φ s A E Q ok P e h=>by
 refine l7 (m:=fun es=>wpAny _ A (allTrue (if u then .And else .Or) es env) Q E s) ok ?_
 (injection e with hE;injection hE with hA hB;subst hA;subst hB)
 exact tR (h φ s.heap s.toks (.refl _ _ _) P.R)
theorem DV {x:X}{xs:List X}(hx:(dL G prog w N h₀ ga ba n) x) (hs:(kU G prog w N h₀ ga ba n) xs):(kU G prog w N h₀ ga ba n) (x :: xs):=fun c env es u ρ σ σ' b φ s A E Q ok P e h=>by
 refine iA (m:=fun es=>wpAny _ A (allTrue (if u then .And else .Or) es env) Q E s) ok fun e' r zz o1 o2=>?_
 refine aC e fun v1 σ1 e1 e=>?_;refine bq e fun t e2 e4=>?_
 dsimp only at e2 e4
 clear e
 have le:pureXs (x :: xs)=true→aK x=true∧pureXs xs=true:=fun z=>bn z
 refine rG (hx _ _ _ _ _ _ _ _ _ _ _ _ _ o1 P e1 e2 fun φ1 h1 t1 S1 R1=>?_)
 split
 ·rename_i q
  rw [if_pos q] at e4
  exact hs _ _ _ _ _ _ _ _ _ _ _ _ _ o2 (P.step S1 R1) e4 (iT.then h S1 R1 le)
 ·rename_i q
  rw [if_neg q] at e4
  (injection e4 with hE;injection hE with hA hB;subst hA;subst hB)
  exact h φ1 h1 t1 (S1.of fun z=>(le z).1) R1
theorem DW {xs:List X}(hs:(kT G prog w N h₀ ga ba n) xs):(ay G prog w N h₀ ga ba n) (.conj xs):=fun c env e ρ σ σ' v φ s A E Q ok P e h=>by
 refine f8 (m:=fun z=>wpAny _ A (eval z env) Q E s) ok fun x es p okk=>aI okk fun o1 ne oa=>eqE (m:=fun z=>wpAny _ A (eval (.BoolOp z es p) env) Q E s) o1 ?_
 refine qI e h fun b σ1 e1 h=>?_
 rw [arm_eval_BoolOp]
 exact hs _ _ _ _ true _ _ _ _ _ _ _ _ _ oa (bE ne) P e1 h
theorem DX {xs:List X}(hs:(kT G prog w N h₀ ga ba n) xs):(ay G prog w N h₀ ga ba n) (.disj xs):=fun c env e ρ σ σ' v φ s A E Q ok P e h=>by
 refine f8 (m:=fun z=>wpAny _ A (eval z env) Q E s) ok fun x es p okk=>aI okk fun o1 ne oa=>eqE (m:=fun z=>wpAny _ A (eval (.BoolOp z es p) env) Q E s) o1 ?_
 refine qI e h fun b σ1 e1 h=>?_
 rw [arm_eval_BoolOp]
 exact hs _ _ _ _ false _ _ _ _ _ _ _ _ _ oa (bE ne) P e1 h
theorem DY {xs:List X}(hs:(kU G prog w N h₀ ga ba n) xs):(dL G prog w N h₀ ga ba n) (.conj xs):=fun c env e ρ σ σ' v b φ s A E Q ok P e eb h=>by
 refine f8 (m:=fun z=>wpAny _ A (isTrue z env (eval z env)) Q E s) ok fun x es p okk=>aI okk fun o1 ne oa=>eqE (m:=fun z=>wpAny _ A (isTrue (.BoolOp z es p) env (eval (.BoolOp z es p) env)) Q E s) o1 ?_
 obtain ⟨⟨b,σ1⟩,e1,e⟩:=map_some e;cases e
 obtain rfl:=aaa eb
 exact wpAny_isTrue_BoolOp (hs _ _ _ true _ _ _ _ _ _ _ _ _ oa P e1 h)
theorem DZ {xs:List X}(hs:(kU G prog w N h₀ ga ba n) xs):(dL G prog w N h₀ ga ba n) (.disj xs):=fun c env e ρ σ σ' v b φ s A E Q ok P e eb h=>by
 refine f8 (m:=fun z=>wpAny _ A (isTrue z env (eval z env)) Q E s) ok fun x es p okk=>aI okk fun o1 ne oa=>eqE (m:=fun z=>wpAny _ A (isTrue (.BoolOp z es p) env (eval (.BoolOp z es p) env)) Q E s) o1 ?_
 obtain ⟨⟨b,σ1⟩,e1,e⟩:=map_some e;cases e
 obtain rfl:=aaa eb
 exact wpAny_isTrue_BoolOp (hs _ _ _ false _ _ _ _ _ _ _ _ _ oa P e1 h)
theorem D0 {x:X}{sc:Scope}{ow:List Str}(so:ig sc ow) {elt:Expr}{setv:V→Rho}{env:Env}(hx:(ay G prog w N h₀ ga ba n) x) (px:aK x=true) (cx:Cxt G c env ga ba) (ha:AOk n A) (ox:okX ⟨sc,c.vars,c.P⟩ x elt=true) :
 wg prog w N h₀ A σ env c.vars sc elt setv (fun i=>(ev G (setv i) σ x).map (·.1)):=fun φ C i y s' Q' E' e fr R F h=>by
 obtain ⟨⟨v,σ1⟩,e1,e⟩:=map_some e;cases e
 have:=aX px e1;subst this
 refine hx ⟨sc,c.vars,c.P⟩ _ elt _ _ _ _ _ _ _ _ _ ox ⟨⟨cx.P,wf so,cx.ga,cx.ba,cx.nd,cx.dot⟩,ha,fr,R,F⟩ e1 fun φ1 h1 t1 u1 S1 R1 r1=>?_
 obtain ⟨rfl,x⟩:=S1.pu px
 exact h h1 t1 u1 x r1
theorem kc {e:Expr}(h:i5 e=true) (x:Value):foldedSetIterable e env x=pure x:=by
 cases e<;>first | rfl | injection h
theorem D1 {x it:X}{v:Nat}(hx:(ay G prog w N h₀ ga ba n) x) (hi:(ay G prog w N h₀ ga ba n) it):(ay G prog w N h₀ ga ba n) (.comp x v it):=fun c env e ρ σ σ' v' φ s A E Q ok P e0 h=>by
 refine jU (m:=fun z=>wpAny _ A (eval z env) Q E s) ok fun elt gens sc pos ok=>?_
 rw [eval_ListComp]
 refine zH (m:=fun z=>wpAny (model prog w) A (comprehension (.ListComp elt z sc pos) sc env (firstIterPos z pos) (newList []) (firstAsync z) (firstIter z env) none) Q E s) ok fun t i fs k1=>bu (m:=fun z=>wpAny (model prog w) A (comprehension (.ListComp elt [⟨z,i,fs,0⟩] sc pos) sc env (firstIterPos [⟨z,i,fs,0⟩] pos) (newList []) (firstAsync [⟨z,i,fs,0⟩]) (firstIter [⟨z,i,fs,0⟩] env) none) Q E s) k1 fun nm p k1=>?_
 refine aI k1 fun k1 ox ofs=>aI k1 fun k1 px oi=>aI k1 fun hv hsc hnf=>cO (m:=fun fs=>wpAny (model prog w) A (comprehension (.ListComp elt [⟨.Name nm p,i,fs,0⟩] sc pos) sc env (firstIterPos [⟨.Name nm p,i,fs,0⟩] pos) (newList []) (firstAsync [⟨.Name nm p,i,fs,0⟩]) (firstIter [⟨.Name nm p,i,fs,0⟩] env) none) Q E s) ofs ?_
 refine aC e0 fun v1 σ1 e1 e=>?_;refine bq e fun its e2 e=>?_;refine cF e fun l e3 e=>?_
 clear e0
 (injection e with hA hB;subst hA;subst hB)
 have so:ig sc [nm]:=B7 hsc
 have pu:aK (.comp x v it)=true→aK it=true:=fun z=>(bn z).2
 refine wpAny_comprehension_free rfl (kc hnf) (qt so) so.fn (fun y hy e=>e▸(so.kinds y.1 y.2 hy).2.2.2) (hi _ _ _ _ _ _ _ _ _ _ _ _ oi P e1 fun φ1 h1 t1 u1 S1 R1 r1=>x7 P.a.1 e2 r1 fun I h₂ fp Pp St S=>?_)
 refine yc (s:={ s with heap:=h1,toks:=t1}) so (eq_of_beq hv) P.cx.nd P.cx.dot (S1.fra P.F) S (S1.fr P.fr) R1 (D0 so hx px P.cx P.a ox) e3 fun D C h' tk m' nC hDC hn xx r=>⟨m',hn,fun h'' hs=>?_⟩
 have noC:s.heap.get? C=none:=by
  cases e:s.heap.get? C with
  | none=>rfl
  | some o=>obtain ⟨_,this,_⟩:=S1.keep _ _ e (fun q=>dp R1 nC (S1.grow.mem q)) List.not_mem_nil;rw [nC] at this;injection this
 have K:f6 [C] h' h'':=fun b o e nb=>hs.extBut b o (fun q=>nb (aai.mpr q)) e
 have ne:∀ {b o},s.heap.get? b=some o→b≠C:=fun e q=>by rw [q,noC] at e;injection e
 refine h φ1 h'' tk _ ⟨S1.grow,fun b o e nm zz=>?_,fun z=>?_⟩ ((R1.ext xx).own K (rF hn) (fun b hb=>by rw [aai.mp hb];exact jx R1 nC) fun m hm=>hs.2 m fun q=>dp R1 nC (q▸hm)) (r.mono (.refl _ _) K.keep (rF hn))
 ·obtain ⟨o',e',al⟩:=S1.keep b o e nm List.not_mem_nil
  obtain ⟨o'',e'',al'⟩:=xx.keep (own:=[]) b o' e' (S1.grow.notmem e nm) List.not_mem_nil
  exact ⟨o'',hs.extBut b o'' (ne e) e'',al.trans al'⟩
 ·obtain ⟨a,x⟩:=S1.pu (pu z)
  exact ⟨a,fun b o e=>hs.extBut b o (ne e) (xx _ _ (x b o e))⟩
end
section
variable {N:aH}{prog:Program}{w:World}{h₀:Heap}{G:Sg}{K:Frag}{ga ba:Addr}{n:Nat}
structure jy (G:Sg) (prog:Program) (w:World) (N:aH) (h₀:Heap) (K:Frag) (ga ba:Addr) (n:Nat):Prop where
 new:we prog w G N h₀ K ga ba n
theorem Gg {c:Cx}{e:Expr}(h:okX c (.non) e=true):aD e.ctorIdx=true:=cM (m:=fun z=>aD z.ctorIdx=true) h fun zz zz zz zz=>rfl
theorem D2 {c:Cx}{e:Expr}{b:Bool}(h:okX c (.bool b) e=true):aD e.ctorIdx=true:=cM (m:=fun z=>aD z.ctorIdx=true) h fun zz zz zz zz=>rfl
theorem Gh {c:Cx}{e:Expr}{i:Int}(h:okX c (.int i) e=true):aD e.ctorIdx=true:=cM (m:=fun z=>aD z.ctorIdx=true) h fun zz zz zz zz=>rfl
theorem Gi {c:Cx}{e:Expr}{l:List Nat}(h:okX c (.str l) e=true):aD e.ctorIdx=true:=cM (m:=fun z=>aD z.ctorIdx=true) h fun zz zz zz zz=>rfl
theorem Gj {c:Cx}{e:Expr}{i:Nat}(h:okX c (.loc i) e=true):aD e.ctorIdx=true:=bu (m:=fun z=>aD z.ctorIdx=true) h fun zz zz zz=>rfl
theorem D3 {c:Cx}{e:Expr}{i:Nat}(h:okX c (.glob i) e=true):aD e.ctorIdx=true:=bu (m:=fun z=>aD z.ctorIdx=true) h fun zz zz zz=>rfl
theorem Gk {c:Cx}{e:Expr}{o:Bop}{a:X}{b:X}(h:okX c (.bin o a b) e=true):aD e.ctorIdx=true:=m8 (m:=fun z=>aD z.ctorIdx=true) h fun zz zz zz zz zz=>rfl
theorem Gl {c:Cx}{e:Expr}{a:X}{b:X}(h:okX c (.idx a b) e=true):aD e.ctorIdx=true:=d9 (m:=fun z=>aD z.ctorIdx=true) h fun zz zz zz zz=>rfl
theorem Gm {c:Cx}{e:Expr}{a:X}{b:X}{d:X}(h:okX c (.slc a b d) e=true):aD e.ctorIdx=true:=d9 (m:=fun z=>aD z.ctorIdx=true) h fun zz zz zz zz=>rfl
theorem Gn {c:Cx}{e:Expr}{xs:List X}(h:okX c (.lst xs) e=true):aD e.ctorIdx=true:=j7 (m:=fun z=>aD z.ctorIdx=true) h fun zz zz zz=>rfl
theorem Go {c:Cx}{e:Expr}{xs:List X}(h:okX c (.tup xs) e=true):aD e.ctorIdx=true:=gI (m:=fun z=>aD z.ctorIdx=true) h fun zz zz zz zz=>rfl
theorem D4 {c:Cx}{e:Expr}{a:X}{n:Nat}(h:okX c (.attr a n) e=true):aD e.ctorIdx=true:=bV (m:=fun z=>aD z.ctorIdx=true) h fun zz zz zz zz=>rfl
theorem Gp {c:Cx}{e:Expr}{k:Nat}(h:okX c (.cat k) e=true):aD e.ctorIdx=true:=bV (m:=fun z=>aD z.ctorIdx=true) h fun zz zz zz zz=>rfl
theorem Hr {c:Cx}{e:Expr}{b:Bi}{xs:List X}(h:okX c (.bi b xs) e=true):aD e.ctorIdx=true:=cq (m:=fun z=>aD z.ctorIdx=true) h fun zz zz zz zz zz=>rfl
theorem Gq {c:Cx}{e:Expr}{xs:List X}(h:okX c (.rng xs) e=true):aD e.ctorIdx=true:=cq (m:=fun z=>aD z.ctorIdx=true) h fun zz zz zz zz zz=>rfl
theorem Hs {c:Cx}{e:Expr}{m:Sm}{a:X}{b:X}(h:okX c (.sm m a b) e=true):aD e.ctorIdx=true:=fu (m:=fun z=>aD z.ctorIdx=true) h fun zz zz zz zz zz zz=>rfl
theorem D5 {c:Cx}{e:Expr}{f:Nat}{xs:List X}(h:okX c (.call f xs) e=true):aD e.ctorIdx=true:=cq (m:=fun z=>aD z.ctorIdx=true) h fun zz zz zz zz zz=>rfl
theorem D6 {c:Cx}{e:Expr}{a:X}{m:Nat}{xs:List X}(h:okX c (.meth a m xs) e=true):aD e.ctorIdx=true:=fu (m:=fun z=>aD z.ctorIdx=true) h fun zz zz zz zz zz zz=>rfl
theorem Gs {c:Cx}{e:Expr}{k:Nat}(h:okX c (.new k) e=true):aD e.ctorIdx=true:=cq (m:=fun z=>aD z.ctorIdx=true) h fun zz zz zz zz zz=>rfl
theorem D7 {c:Cx}{e:Expr}{x:X}{v:Nat}{it:X}(h:okX c (.comp x v it) e=true):aD e.ctorIdx=true:=jU (m:=fun z=>aD z.ctorIdx=true) h fun zz zz zz zz zz=>rfl
theorem Gu {a:X}(ha:(ay G prog w N h₀ ga ba n) a):(dL G prog w N h₀ ga ba n) (.neg a):=fun c env e ρ σ σ' v b φ s A E Q ok P e1 eb h =>
 wpAny_isTrue_value (Bm ha _ _ _ _ _ _ _ _ _ _ _ _ ok P e1 fun φ' h' tk u S R r=>kb eb r (h φ' h' tk S R))
  (ft (m:=fun e=>isTrue e env (eval e env)=(do let v ← eval e env;standAt e.pos;holding [v] (truthy v))) ok fun op x p okk=>aq okk fun o1 zz=>eqE (m:=fun op=>isTrue (.UnaryOp op x p) env (eval (.UnaryOp op x p) env)=(do let v ← eval (.UnaryOp op x p) env;standAt p;holding [v] (truthy v))) o1 rfl)
mutual
theorem aL (B:bD G prog w N h₀ K ga ba n) (L:jy G prog w N h₀ K ga ba n):∀ x:X,(ay G prog w N h₀ ga ba n) x∧(dL G prog w N h₀ ga ba n) x
 | .non=>⟨Bn,c6 Bn fun zz zz=>Gg⟩
 | .bool _=>⟨yd,c6 yd fun zz zz=>D2⟩
 | .int _=>⟨Bo,c6 Bo fun zz zz=>Gh⟩
 | .str _=>⟨Bp,c6 Bp fun zz zz=>Gi⟩
 | .loc _=>⟨wj,c6 wj fun zz zz=>Gj⟩
 | .glob _=>⟨ye B,c6 (ye B) fun zz zz=>D3⟩
 | .bin o a b=>have h:=FV (o:=o) (aL B L a).1 (aL B L b).1;⟨h,c6 h fun zz zz=>Gk⟩
 | .cmp o a b=>⟨FW (aL B L a).1 (aL B L b).1,FX (aL B L a).1 (aL B L b).1⟩
 | .conj xs=>⟨DW (sounds B L xs).2.1,DY (sounds B L xs).2.2⟩
 | .disj xs=>⟨DX (sounds B L xs).2.1,DZ (sounds B L xs).2.2⟩
 | .not a=>⟨FY (aL B L a).1,FZ (aL B L a).2⟩
 | .neg a=>⟨Bm (aL B L a).1,Gu (aL B L a).1⟩
 | .ife a b d=>⟨F5 (aL B L a).2 (aL B L b).1 (aL B L d).1,F7 (aL B L a).2 (aL B L b).2 (aL B L d).2⟩
 | .idx a b=>have h:=F8 (aL B L a).1 (aL B L b).1;⟨h,c6 h fun zz zz=>Gl⟩
 | .slc a b d=>have h:=F9 (aL B L a).1 (aL B L b).1 (aL B L d).1;⟨h,c6 h fun zz zz=>Gm⟩
 | .lst xs=>have h:=Ga (sounds B L xs).1;⟨h,c6 h fun zz zz=>Gn⟩
 | .tup xs=>have h:=Gb (sounds B L xs).1;⟨h,c6 h fun zz zz=>Go⟩
 | .attr a m=>have h:=DR (m:=m) B (aL B L a).1;⟨h,c6 h fun zz zz=>D4⟩
 | .cat k=>⟨Bq B,c6 (Bq B) fun zz zz=>Gp⟩
 | .bi b xs=>have h:=Hp (b:=b) B (sounds B L xs).1;⟨h,c6 h fun zz zz=>Hr⟩
 | .rng xs=>have h:=Gc B (sounds B L xs).1;⟨h,c6 h fun zz zz=>Gq⟩
 | .sm m a b=>have h:=Hq (m:=m) (aL B L a).1 (aL B L b).1;⟨h,c6 h fun zz zz=>Hs⟩
 | .call f xs=>have h:=DS (f:=f) B (sounds B L xs).1;⟨h,c6 h fun zz zz=>D5⟩
 | .meth a m xs=>have h:=DT (m:=m) B (aL B L a).1 (sounds B L xs).1;⟨h,c6 h fun zz zz=>D6⟩
 | .new k=>have h:=Gd (k:=k) B L.new;⟨h,c6 h fun zz zz=>Gs⟩
 | .comp x v it=>have h:=D1 (v:=v) (aL B L x).1 (aL B L it).1;⟨h,c6 h fun zz zz=>D7⟩
theorem sounds (B:bD G prog w N h₀ K ga ba n) (L:jy G prog w N h₀ K ga ba n):∀ xs:List X,(fy G prog w N h₀ ga ba n) xs∧(kT G prog w N h₀ ga ba n) xs∧(kU G prog w N h₀ ga ba n) xs
 | []=>⟨wh,Ge,Gf⟩
 | x :: xs=>⟨rI (aL B L x).1 (sounds B L xs).1,DU (aL B L x).1 (sounds B L xs).2.1,DV (aL B L x).2 (sounds B L xs).2.2⟩
end
end
noncomputable def Fld (o:Obj) (vs:Array Value):Prop:=o.data = .fields vs∧o.cls≠.type "range"
noncomputable def New (h₀:Heap) (φ:Phi) (hb:Heap) (x:Addr):Prop:=x∉au φ∧h₀.get? x=none∧hb.get? x=none
inductive Xc (h₀:Heap) (φ:Phi) (hb h:Heap) (C e:Addr):Option Value→Prop where
 | bare (oe:Obj) (vs:Array Value) (n:New h₀ φ hb e) (g:h.get? e=some oe) (c:oe.cls = .ref C) (d:oe.data = .fields vs) (v:vs[1]? = some .none):Xc h₀ φ hb h C e none
 | held (oe:Obj) (vs:Array Value) (n:New h₀ φ hb e) (g:h.get? e=some oe) (c:oe.cls = .ref C) (d:oe.data = .fields vs) (T:Addr) (oT:Obj) (ts:Array Value) (f:Value) (v:vs[1]? = some (.ref T)) (ne:T≠e) (nT:New h₀ φ hb T) (gT:h.get? T=some oT) (dT:Fld oT ts) (t:ts[3]? = some f):Xc h₀ φ hb h C e (some f)
noncomputable def ii (h₀:Heap) (φ:Phi) (x:Addr) (h h':Heap):Prop:=∀ b o,h.get? b=some o→h'.get? b=some o∨b=x∨(b∉au φ∧h₀.get? b=none∧dO o∧∃ sl,h'.get? b=some { o with slots:=sl})
section
variable {N:aH}{prog:Program}{w:World}{h₀ h h' hb:Heap}{σ:St}{φ φ₁:Phi}{env:Env}{vars:List Str}{ρ:Rho}{A:Around}{E:Value→Shared→Prop}{s:Shared}{x C e:Addr}
theorem rL:Value.ref C≠.type "range":=fun q=>(by injection q)
theorem ii.keep (k:ii h₀ φ x h h'):bS φ [x] h h':=fun b o e n m=>by
 rcases k b o e with q | q | ⟨_,_,d,sl,q⟩
 ·exact ⟨_,q,.refl _⟩
 ·exact absurd (aai.mpr q) m
 ·exact ⟨_,q,.inr ⟨d,sl,rfl⟩⟩
theorem ii.rel (k:ii h₀ φ x h h') (R:Rel N w h₀ σ φ h) (nx:x∉au φ∧h₀.get? x=none) {o:Obj}{vs:Array Value}(g:h.get? x=some o) (f:Fld o vs):Rel N w h₀ σ φ h' :=
 R.kept (fun b o' e=>by
  rcases k b o' (R.base _ _ e) with q | q | ⟨_,q,_⟩
  ·exact q
  ·rw [q,nx.2] at e;injection e
  ·rw [q] at e;injection e) k.keep (fun b m=>by rw [aai.mp m];exact ⟨o,g,.inr (.inr ⟨vs,f⟩)⟩) fun m q=>by
  obtain ⟨o',e⟩:=Option.isSome_iff_exists.mp (R.mut_some m q)
  rcases k m o' e with z | z | ⟨z,_⟩
  ·rw [z,e]
  ·exact absurd (z▸q) nx.1
  ·exact absurd q z
theorem ii.fra (k:ii h₀ φ x h h') (F:Fra w h₀ φ env vars ρ h) {o:Obj}{vs:Array Value}(g:h.get? x=some o) (f:Fld o vs):Fra w h₀ φ env vars ρ h' :=
 F.keep (.refl _ _) k.keep (fun b m=>by rw [aai.mp m];exact ⟨o,g,.inr (.inr ⟨vs,f⟩)⟩) fun b hb q=>by
  obtain rfl:=aai.mp q
  rw [aai.mp hb] at g
  obtain ⟨_,⟨o',_,_,e,d,_⟩,_⟩:=F.ns
  rw [g] at e;obtain rfl:=aaa e;rw [f.1] at d;injection d
theorem ii.fr (k:ii h₀ φ x h h') (F:bw h₀ A φ h) {o:Obj}{vs:Array Value}(g:h.get? x=some o) (f:Fld o vs):bw h₀ A φ h' :=
 F.keep (.refl _ _) k.keep fun b m o' e' d=>by
  rw [aai.mp m,g] at e';obtain rfl:=aaa e'
  exact absurd d (gj f.1)
theorem New.fresh (R:Rel N w h₀ σ φ hb) (g:hb.get? x=none):New h₀ φ hb x:=⟨dp R g,jx R g,g⟩
noncomputable def Top (A:Around) (env:Env):Prop:=∃ outer,A.frames=some (env :: outer)
theorem bw.fun (f:bw h₀ A φ h) {fs:List Env}(hf:A.frames=some fs):h.FunFrames h₀ fs:=by
 obtain ⟨fs',a,b⟩:=f
 obtain rfl:=aaa (hf.symm.trans a)
 clear a hf
 induction fs with
 | nil=>trivial
 | cons e r ih =>
  obtain ⟨k,L,o,c,d,_,g,es,n,i⟩:=b e aam
  exact ⟨k,⟨L,o,c,d,g,fun vs q=>by rw [i] at q;injection q⟩,ih fun e m=>b e (aag _ m)⟩
theorem bw.slots (f:bw h₀ A φ h) {fs:List Env}(hf:A.frames=some fs) (x:Heap.SlotsOnly (fs.filterMap (·.frame)) h h') (y:Addr):ii h₀ φ y h h':=fun b o e=>by
 by_cases q:b∈fs.filterMap (·.frame)
 ·obtain ⟨fs',a,z⟩:=f
  obtain rfl:=aaa (hf.symm.trans a)
  obtain ⟨en,m,hL⟩:=List.mem_filterMap.mp q
  obtain ⟨_,L,o',c,d,nm,g,i⟩:=z en m
  obtain rfl:=aaa (hL.symm.trans c)
  obtain rfl:=aaa (e.symm.trans g)
  exact .inr (.inr ⟨nm,d,i,x.2.2 b o e⟩)
 ·exact .inl ((x.2.1 b q).trans e)
theorem bw.top (f:bw h₀ A φ h) (t:Top A env):∃ L,env.frame=some L:=by
 obtain ⟨fs,a,b⟩:=f
 obtain ⟨o,t⟩:=t
 obtain rfl:=aaa (t.symm.trans a)
 obtain ⟨_,L,_,c,_⟩:=b env aam
 exact ⟨L,c⟩
noncomputable def dC (h₀:Heap) (φ:Phi) (hb h:Heap) (env:Env) (C e:Addr):Prop:=∃ L,env.frame=some L∧(Xc h₀ φ hb h C e none∨Xc h₀ φ hb h C e (some (rawInt L)))
structure cC (N:aH) (w:World) (h₀:Heap) (A:Around) (σ:St) (φ:Phi) (env:Env) (vars:List Str) (ρ:Rho) (hb h':Heap):Prop where
 R:Rel N w h₀ σ φ h'
 F:Fra w h₀ φ env vars ρ h'
 fr:bw h₀ A φ h'
 up:∀ b o,hb.get? b=some o→b∉au φ→b∉own env→∃ o',h'.get? b=some o'∧d8 o o'
theorem cC.step (S:cC N w h₀ A σ φ env vars ρ hb h) (k:ii h₀ φ x h h') (n:New h₀ φ hb x) {o:Obj}{vs:Array Value}(g:h.get? x=some o) (f:Fld o vs):cC N w h₀ A σ φ env vars ρ hb h' :=
 ⟨k.rel S.R ⟨n.1,n.2.1⟩ g f,k.fra S.F g f,k.fr S.fr g f,fun b o' e m1 m2=>by
  obtain ⟨o1,e1,a1⟩:=S.up b o' e m1 m2
  obtain ⟨o2,e2,a2⟩:=k.keep b o1 e1 m1 fun q=>by rw [aai.mp q,n.2.2] at e;injection e
  exact ⟨o2,e2,a1.trans a2⟩⟩
theorem rM {o:Obj}{vs:Array Value}{i:Nat}{v:Value}(g:h.get? x=some o):ii h₀ φ x h (h.update x (Obj.mapFields (·.setIfInBounds i v))):=fun b o' e'=>by
 by_cases q:b=x
 ·exact .inr (.inl q)
 ·exact .inl ((Heap.get?_update_other _ _ (Ne.symm q)).trans e')
theorem Xc.flight {B:Around}{f v:Value}{Q:Unit→Shared→Prop}{ln:Option Addr}(hv:ln.elim Value.none (fun a=>rawInt a)=v) (S:cC N w h₀ A σ φ env vars ρ hb s.heap) (c:Xc h₀ φ hb s.heap C e (some f))
 (hQ:∀ h',cC N w h₀ A σ φ env vars ρ hb h'→Xc h₀ φ hb h' C e (some v)→Q () { s with heap:=h'}):wpAny (model prog w) B (setFlight (.ref e) ln) Q E s:=by
 cases c with
 | held oe vs n g cc d T oT ts f v1 ne nT gT dT t =>
  unfold setFlight
  refine wpAny_bind (wpAny_field g d v1 ?_)
  rw [if_pos (show (Value.ref T != Value.none)=true from by simp)]
  have lt:=(Array.getElem?_eq_some_iff.mp t).1
  refine wpAny_setField gT dT.1 lt (hQ _ (S.step (rM (vs:=ts) gT) nT gT dT) ?_)
  have dT':=Obj.data_mapFields dT.1 (·.setIfInBounds 3 (ln.elim Value.none fun f=>rawInt f))
  exact .held oe vs n ((Heap.get?_update_other _ _ ne).trans g) cc d T _ _ v v1 ne nT (Heap.get?_update_self _ gT (Obj.isFreed_of_fields dT')) ⟨dT',by rw [Obj.cls_mapFields];exact dT.2⟩ (by rw [← hv];simp [lt])
theorem dC.note {Q:Unit→Shared→Prop}(tp:Top A env) (S:cC N w h₀ A σ φ env vars ρ hb s.heap) (c:dC h₀ φ hb s.heap env C e)
 (hQ:∀ h' L,env.frame=some L→cC N w h₀ A σ φ env vars ρ hb h'→Xc h₀ φ hb h' C e (some (rawInt L))→Q () { s with heap:=h'}):wpAny (model prog w) A (noteFrame (.ref e) env) Q E s:=by
 obtain ⟨L,hL,c⟩:=c
 obtain ⟨outer,tp⟩:=tp
 unfold noteFrame
 simp only [hL]
 rcases c with c | c
 ·cases c with
  | bare oe vs n g cc d v1 =>
   refine wpAny_bind (wpAny_field g d v1 ?_)
   rw [if_neg (by decide)]
   refine wpAny_bind (wpAny_frameOf_fun tp (S.fr.fun tp) hL fun h₁ x1=>?_)
   have fl:Fld oe vs:=⟨d,by rw [cc];exact rL⟩
   have S1:=S.step (S.fr.slots tp x1 e) n g fl
   have ge:h₁.get? e=some oe:=(x1.2.1 e fun hm=>by
    obtain ⟨_,o',ho,hnf⟩:=(S.fr.fun tp).mem hm
    rw [g] at ho;obtain rfl:=aaa ho;exact hnf vs d).trans g
   refine wpAny_bind (wpAny_entryPlaceOf fun pl hpl=>?_)
   unfold EntryCells.newEntry newFields
   refine wpAny_bind (wpAny_newObj_type ?_ (hpl.sizeOk5 _ _ _ _ _))
   have lt:=(Array.getElem?_eq_some_iff.mp v1).1
   obtain ⟨T,hT⟩:∃ T,T=h₁.objs.size:=⟨_,rfl⟩
   have x2:Ext h₁ (h₁.push { cls:=.type "traceback",dict:=none,data:=.fields ([Value.none,.ref L,.none,rawInt L,.none]++(if pl.isEmpty then List.replicate 6 Value.none else pl)).toArray}):=Ext.push _ _
   have gT:=Heap.get?_push_size h₁ (o:={ cls:=.type "traceback",dict:=none,data:=.fields ([Value.none,.ref L,.none,rawInt L,.none]++(if pl.isEmpty then List.replicate 6 Value.none else pl)).toArray}) rfl
   have t3:(([Value.none,.ref L,.none,rawInt L,.none]++(if pl.isEmpty then List.replicate 6 Value.none else pl)).toArray)[3]? = some (rawInt L):=by exact rfl
   show wpAny (model prog w) A (setField (.ref e) 1 (.ref h₁.objs.size)) Q E { s with heap:=h₁.push _}
   generalize h₁.push { cls:=.type "traceback",dict:=none,data:=.fields ([Value.none,.ref L,.none,rawInt L,.none]++(if pl.isEmpty then List.replicate 6 Value.none else pl)).toArray} = h₂ at x2 gT ⊢
   rw [← hT] at gT ⊢
   have nT₁:h₁.get? T=none:=hT▸dj h₁
   have ne:T≠e:=fun q=>by rw [q,ge] at nT₁;injection nT₁
   have nT:New h₀ φ hb T:=⟨dp S1.R nT₁,jx S1.R nT₁,by
    cases q:hb.get? T with
    | none=>rfl
    | some o =>
     by_cases m1:T∈au φ
     ·exact absurd m1 (dp S1.R nT₁)
     ·by_cases m2:T∈own env
      ·obtain ⟨o',e'⟩:=S1.F.own_some T m2;rw [nT₁] at e';injection e'
      ·obtain ⟨o',e',_⟩:=S1.up T o q m1 m2;rw [nT₁] at e';injection e'⟩
   have ge2:=x2 _ _ ge
   have S2:cC N w h₀ A σ φ env vars ρ hb h₂:=⟨S1.R.ext x2,S1.F.ext x2,S1.fr.ext x2,fun b o e' m1 m2=>let ⟨o1,e1,a1⟩:=S1.up b o e' m1 m2;⟨o1,x2 _ _ e1,a1⟩⟩
   refine wpAny_setField ge2 d lt (hQ _ L hL (S2.step (rM (vs:=vs) ge2) n ge2 fl) ?_)
   have d':=Obj.data_mapFields d (·.setIfInBounds 1 (Value.ref T))
   exact .held _ _ n (Heap.get?_update_self _ ge2 (Obj.isFreed_of_fields d')) (by rw [Obj.cls_mapFields];exact cc) d' T _ _ _ (by simp [lt]) ne nT ((Heap.get?_update_other _ _ (Ne.symm ne)).trans gT) ⟨rfl,show Value.type "traceback"≠Value.type "range" by decide⟩ t3
 ·have c':=c
  cases c with
  | held oe vs n g cc d T oT ts f v1 ne nT gT dT t =>
   refine wpAny_bind (wpAny_field g d v1 ?_)
   rw [if_pos (show (Value.ref T != Value.none)=true from by simp)]
   refine wpAny_bind (wpAny_field gT dT.1 t ?_)
   rw [if_pos (show (rawInt L==rawInt L)=true from by simp)]
   exact wpAny_pure (hQ s.heap L hL S c')
theorem dC.thru (tp:Top A env) (S:cC N w h₀ A σ φ env vars ρ hb s.heap) (c:dC h₀ φ hb s.heap env C e)
 (hQ:∀ h',cC N w h₀ A σ φ env vars ρ hb h'→dC h₀ φ hb h' env C e→E (.ref e) { s with heap:=h'}):notedBy (model prog w) A env (fun x s'=>cameBackBy (model prog w) A env E x s') (.ref e) s :=
 c.note tp S fun h1 L hL S1 c1=>by
  have c1':=c1
  cases c1 with
  | held oe vs n g cc d T oT ts f v1 ne nT gT dT t =>
   refine wpAny_bind (wpAny_field (s:={ s with heap:=h1}) g d v1 ?_)
   rw [if_neg (fun h=>Bool.noConfusion h)]
   rw [hL]
   exact Xc.flight (s:={ s with heap:=h1}) rfl S1 c1' fun h2 S2 c2=>hQ h2 S2 ⟨L,hL,.inr c2⟩
end
section
variable {N:aH}{prog:Program}{w:World}{h₀ h h' hb:Heap}{σ:St}{φ φ₁:Phi}{env:Env}{vars:List Str}{ρ:Rho}{A:Around}{E:Value→Shared→Prop}{s:Shared}{x C C' e:Addr}{G:Sg}{K:Frag}{ga ba:Addr}{n:Nat}{c:Cx}
theorem Xc.type {M:Model}{f:Option Value}(c:Xc h₀ φ hb h C e f):Looks M h (typeOf (.ref e)) (.ref C):=by
 cases c with
 | bare oe vs n g cc=>exact cc▸(Looks.ld g).andThen .now
 | held oe vs n g cc=>exact cc▸(Looks.ld g).andThen .now
theorem zP {nm:Str}{np cp pos:Pos}{Q:Flow→Shared→Prop}(hh:A.handled=none) (hL:∃ L,env.frame=some L) (hg:env.globals=ga) (hbi:env.builtins=ba) (hk:env.scope.kind = .function) (ok:fq env.scope nm=true)
 (g:dW h₀ ga ba nm (.ref C)) (xc:rt h₀ C) (S:cC N w h₀ A σ φ env vars ρ s.heap s.heap)
 (hE:∀ h' e,cC N w h₀ A σ φ env vars ρ s.heap h'→dC h₀ φ s.heap h' env C e→E (.ref e) { s with heap:=h'}) :
 wpAny (model prog w) A (exec (.Raise (some (.Call (.Name nm np) [] [] cp)) none pos) env) Q E s:=by
 obtain ⟨n1,q,NS,bs,hdct,sn,sub,ab,col,dd,k0,k1,k2,k3,k5,mN,hC,hN,hni⟩:=xc
 refine wpAny_Raise_call_sub (C:=C) (nm:=n1) (q:=q) (N:=NS) (bs:=bs) (hdct:=hdct) (sn:=sn) (sub:=sub) (ab:=ab) (col:=col) (dd:=dd) (k0:=k0) (k1:=k1) (k2:=k2) (k3:=k3) (k5:=k5) (mN:=mN) F.excBase_Exception hh rfl hni ?_
 refine g.name S.R.base hg hbi hk ok ⟨rfl,?_⟩
 refine fv (ts:=[]) rfl (spliced_nil ⟨rfl,Nat.zero_le _,S.R.base _ _ hC,Ns.ext hN S.R.base,fun h' e hm=>hE h' e ?_ ?_⟩)
 ·exact ⟨S.R.ext hm.keeps,S.F.ext hm.keeps,S.fr.ext hm.keeps,fun b o e' zz zz=>⟨o,hm.keeps _ _ e',.refl _⟩⟩
 ·obtain ⟨L,hL⟩:=hL
  obtain ⟨t,ht,_,_⟩:=hm.there
  exact ⟨L,hL,.inl (.bare _ _ (New.fresh S.R hm.new) ht rfl rfl rfl)⟩
theorem yi {nm:Str}{np pp pos:Pos}{b:Bool}{Q:Flow→Shared→Prop}(hL:∃ L,env.frame=some L) (hg:env.globals=ga) (hbi:env.builtins=ba) (hk:env.scope.kind = .function) (ok:fq env.scope nm=true)
 (g:dW h₀ ga ba nm (.ref C')) (X:K.In h₀) (hx:exmOne K (.ref C) (.ref C')=some b) (S:cC N w h₀ A σ φ env vars ρ hb s.heap) (c:Xc h₀ φ hb s.heap C e (some .none))
 (yes:b=true→∀ h',cC N w h₀ A σ φ env vars ρ hb h'→Q .next { s with heap:=h'})
 (no:b=false→∀ h',cC N w h₀ A σ φ env vars ρ hb h'→dC h₀ φ hb h' env C e→E (.ref e) { s with heap:=h'}) :
 wpAny (model prog w) A (handleBy (.ref e) env [.ExceptHandler (some (.Name nm np)) none [.Pass pp] pos]) Q E s:=by
 refine wpAny_handleBy_cons (codeAny_handlers_test (g.name S.R.base hg hbi hk ok (exm_one (X.keeps S.R.base) c.type hx _ _ _ _ (fun zz zz e=>e) ?_))) (fun q=>(by injection q))
 cases b with
 | true =>
  refine codeAny_handlers_suite (Xc.flight (s:=s) (ln:=none) rfl S c fun h' S' zz=>wpAny_execs_cons ?_)
  exact wpAny_Pass (wpAny_execs_nil (yes rfl h' S'))
 | false =>
  refine wpAny_handleBy_nil ?_
  unfold PySem.passOn
  obtain ⟨L,hL⟩:=hL
  have c':=c
  cases c with
  | held oe vs n g cc d T oT ts f v1 ne nT gT dT t =>
   refine wpAny_bind (wpAny_field g d v1 ?_)
   rw [if_neg (fun h=>Bool.noConfusion h),hL]
   exact wpAny_bind (Xc.flight (s:=s) rfl S c' fun h2 S2 c2=>wpAny_throw (no rfl h2 S2 ⟨L,hL,.inr c2⟩))
end
inductive Aop where | add | sub
noncomputable def Aop.py:Aop→Operator
 | .add=>.Add | .sub=>.Sub
noncomputable def Aop.run (o:Aop) (x y:V):Option V:=eQ x y fun a b=>some (.int (match o with | .add=>a+b | .sub=>a - b))
inductive S where
 | expr (x:X)
 | set (i:Nat) (x:X)
 | setT (is:List Nat) (rev:Bool) (x:X)
 | setL (is:List Nat) (x:X)
 | setA (o:X) (a:Nat) (x:X)
 | augA (o:X) (a:Nat) (op:Aop) (x:X)
 | aug (i:Nat) (op:Aop) (x:X)
 | ite (c:X) (a b:List S)
 | whl (c:X) (b:List S)
 | for1 (i:Nat) (x:X) (b:List S)
 | ret (x:X)
 | brk | cont
 | asrt (x:X)
 | raise (k:Nat)
 | try1 (b:List S) (k:Nat)
inductive Out where | next | brk | cont | ret (v:V) | exc (k:Nat)
noncomputable abbrev Res:=Option (Out×Rho×St)
noncomputable def zQ:V→Bool
 | .g _=>false
 | _=>true
noncomputable def ij (P:Pg) (σ:St) (o:V) (a:Nat) (v:V):Option St :=
 match o with
 | .obj k=>match σ[k]? with
  | some (.inst c fs)=>if P.cs.contains c&&P.ats.contains a&&zQ v&&((co fs a).isSome||decide (fs.length<100)) then some (σ.set k (.inst c (gv fs a v))) else none
  | none=>none
 | _=>none
noncomputable def wm (p:Out×Rho×St) (k:Res):Res:=match p.1 with
 | .next=>k
 | .brk=>some p
 | .cont=>some p
 | .ret _=>some p
 | .exc _=>some p
noncomputable def kW (p:Out×Rho×St) (k:Res):Res:=match p.1 with
 | .next=>k
 | .cont=>k
 | .brk=>some (.next,p.2)
 | .ret _=>some p
 | .exc _=>some p
noncomputable def rN (j:Nat) (p:Out×Rho×St):Out×Rho×St:=match p.1 with
 | .next=>p
 | .cont=>p
 | .brk=>p
 | .ret _=>p
 | .exc k=>if k==j then (.next,p.2) else p
noncomputable def iB (cond:Rho→St→Option (Bool×St)) (body:Rho→St→Res):Nat→Rho→St→Res
 | 0,_,_=>none
 | n+1,ρ,σ=>(cond ρ σ).bind fun p=>if p.1 then (body ρ p.2).bind fun r=>kW r (iB cond body n r.2.1 r.2.2)
  else some (.next,ρ,p.2)
noncomputable def kX (set:V→Rho→Option Rho) (body:Rho→St→Res):List V→Rho→St→Res
 | [],ρ,σ=>some (.next,ρ,σ)
 | v :: vs,ρ,σ=>(set v ρ).bind fun ρ'=>(body ρ' σ).bind fun r=>kW r (kX set body vs r.2.1 r.2.2)
noncomputable def fz:List Nat→List V→Rho→Option Rho
 | [],vs,ρ=>match vs with | []=>some ρ | _ :: _=>none
 | i :: is,vs,ρ=>match vs with | v :: vs=>fz is vs (ρ.set i (some v)) | []=>none
noncomputable def rO (is:List Nat) (rev:Bool) (v:V) (ρ:Rho):Option Rho :=
 match v with
 | .tup vs=>if rev then fz is.reverse vs.reverse ρ else fz is vs ρ
 | _=>none
noncomputable def rQ (is:List Nat) (v:V) (ρ:Rho):Option Rho:=asL v fun vs=>fz is vs ρ
mutual
noncomputable def exS (G:Sg) (n:Nat):S→Rho→St→Res
 | .expr x,ρ,σ=>(ev G ρ σ x).map fun p=>(.next,ρ,p.2)
 | .set i x,ρ,σ=>(ev G ρ σ x).map fun p=>(.next,ρ.set i (some p.1),p.2)
 | .setT is rev x,ρ,σ=>(ev G ρ σ x).bind fun p=>(rO is rev p.1 ρ).map fun ρ'=>(.next,ρ',p.2)
 | .setL is x,ρ,σ=>(ev G ρ σ x).bind fun p=>(rQ is p.1 ρ).map fun ρ'=>(.next,ρ',p.2)
 | .setA o a x,ρ,σ=>(ev G ρ σ x).bind fun p=>(ev G ρ p.2 o).bind fun q=>(ij G.P q.2 q.1 a p.1).map fun σ'=>(.next,ρ,σ')
 | .augA o a op x,ρ,σ=>(ev G ρ σ o).bind fun q=>(cL G.P q.2 q.1 a).bind fun old=>(ev G ρ q.2 x).bind fun p=>(op.run old p.1).bind fun v=>(ij G.P p.2 q.1 a v).map fun σ'=>(.next,ρ,σ')
 | .aug i op x,ρ,σ=>((ρ[i]?).bind id).bind fun old=>(ev G ρ σ x).bind fun p=>(op.run old p.1).map fun v=>(.next,ρ.set i (some v),p.2)
 | .ite c a b,ρ,σ=>(ev G ρ σ c).bind fun p=>(ck p.1).bind fun t=>if t then exB G n a ρ p.2 else exB G n b ρ p.2
 | .whl c b,ρ,σ=>iB (fun ρ σ=>(ev G ρ σ c).bind fun p=>(ck p.1).map (·,p.2)) (fun ρ σ=>exB G n b ρ σ) n ρ σ
 | .for1 i x b,ρ,σ=>(ev G ρ σ x).bind fun p=>(eH p.1).bind fun its=>kX (fun v ρ=>some (ρ.set i (some v))) (fun ρ σ=>exB G n b ρ σ) its ρ p.2
 | .ret x,ρ,σ=>(ev G ρ σ x).map fun p=>(.ret p.1,ρ,p.2)
 | .brk,ρ,σ=>some (.brk,ρ,σ)
 | .cont,ρ,σ=>some (.cont,ρ,σ)
 | .asrt x,ρ,σ=>(ev G ρ σ x).bind fun p=>(ck p.1).bind fun t=>if t then some (.next,ρ,p.2) else none
 | .raise k,ρ,σ=>(G.P.ex[k]?).map fun zz=>(.exc k,ρ,σ)
 | .try1 b k,ρ,σ=>(exB G n b ρ σ).map (rN k)
noncomputable def exB (G:Sg) (n:Nat):List S→Rho→St→Res
 | [],ρ,σ=>some (.next,ρ,σ)
 | t :: r,ρ,σ=>(exS G n t ρ σ).bind fun p=>wm p (exB G n r p.2.1 p.2.2)
end
mutual
noncomputable def eK:S→Bool
 | .expr x | .set _ x | .setT _ _ x | .setL _ x | .aug _ _ x | .ret x | .asrt x=>aK x
 | .setA _ _ _ | .augA _ _ _ _ | .raise _ | .try1 _ _=>false
 | .ite c a b=>aK c&&pureB a&&pureB b
 | .whl c b=>aK c&&pureB b
 | .for1 _ x b=>aK x&&pureB b
 | .brk | .cont=>true
noncomputable def pureB:List S→Bool
 | []=>true
 | t :: r=>eK t&&pureB r
end
noncomputable def okV (c:Cx) (i:Nat) (n:Str):Bool:=c.vars[i]?==some n&&kP c.sc n
noncomputable def kY:List Expr→(List Str→Bool)→Bool
 | [],f=>f []
 | t :: r,f=>cN t fun n=>kY r fun ns=>f (n :: ns)
noncomputable def dX (c:Cx):List Nat→List Str→Bool
 | [],ns=>ns.isEmpty
 | i :: is,ns=>match ns with | n :: ns=>okV c i n&&dX c is ns | []=>false
noncomputable def gS (e:Expr):Bool:=!(e.ctorIdx==8)&&!(e.ctorIdx==9)&&!(e.ctorIdx==10)
noncomputable def kZ (ts:List Expr) (sc:Scope):List Str :=
 ts.filterMap fun
  | .Name id pos=>if sc.names.lookup id==some .local&&pos.line==(ts.head?.map (·.pos.line)).getD 0 then some id else none
  | _=>none
noncomputable def swT (ts vs:List Expr) (sc:Scope):Option (Option (List Str)) :=
 if !(ts.length==2||ts.length==3)||vs.length != ts.length then some none
 else if vs.any (fun | .Starred ..=>true | _=>false) then some none
 else if (kZ ts sc).length != ts.length||(kZ ts sc).eraseDups.length != (kZ ts sc).length then some none
 else if vs.all (foldedForSure 8) then some none
 else if vs.all (constantsAlone 8) then none
 else some (some (kZ ts sc))
noncomputable def swS (ts:List Expr) (value:Expr) (sc:Scope):Option (Option (List Str)) :=
 if h:value.ctorIdx=25 then Expr.Tuple.elim (motive_1:=fun zz=>Option (Option (List Str))) value h fun vs zz zz=>swT ts vs sc else some none
theorem nu {c:Prop}{_:Decidable c}{α β:Type}{a r:α}{x:Option α}{f:α→β}{y:β}(h:(if c then some a else x)=some r) (k:x=some r→y=f r):(if c then f a else y)=f r:=by
 by_cases q:c
 ·rw [if_pos q] at h ⊢;obtain rfl:=aaa h;rfl
 ·rw [if_neg q] at h ⊢;exact k h
theorem rR {ts:List Expr}{k:Nat}{p:Pos}{value:Expr}{env:Env}{r:Option (List Str)}(hf:env.scope.kind = .function) (h:swS ts value env.scope=some r):swappedStores [.Tuple ts k p] value env=pure r:=by
 have hb:(env.blockKind != .function)=false:=by unfold Env.blockKind;rw [hf];rfl
 by_cases q:value.ctorIdx=25
 ·refine Expr.Tuple.elim (motive_1:=fun value=>swS ts value env.scope=some r→swappedStores [.Tuple ts k p] value env=pure r) value q (fun vs k' p' h=>?_) h
  have h:swT ts vs env.scope=some r:=h
  show (if (!(ts.length==2||ts.length==3)||vs.length != ts.length||env.blockKind != .function)=true then pure none else _)=_
  rw [hb,Bool.or_false]
  refine nu (f:=fun r=>(pure r:Sem (Option (List Str)))) h fun h=>?_
  refine nu (f:=fun r=>(pure r:Sem (Option (List Str)))) h fun h=>?_
  refine nu (f:=fun r=>(pure r:Sem (Option (List Str)))) h fun h=>?_
  refine nu (f:=fun r=>(pure r:Sem (Option (List Str)))) h fun h=>?_
  by_cases q:vs.all (constantsAlone 8)=true
  ·rw [if_pos q] at h;injection h
  ·rw [if_neg q] at h;exact (if_neg q).trans (congrArg pure (aaa h))
 ·have hr:none=r:=by unfold swS at h;rw [dif_neg q] at h;exact aaa h
  subst hr
  clear h hb hf
  cases value<;>first | rfl | exact absurd rfl q
noncomputable def pi (e:Stmt) (kf:Expr→Bool):Bool:=if h:e.ctorIdx=24 then Stmt.Expr.elim (motive_2:=fun zz=>Bool) e h (fun e zz=>kf e) else false
theorem nw {e:Stmt}{kf:Expr→Bool}{m:Stmt→Prop}(h:pi e kf=true) (kk:∀ e p,kf e=true→m (.Expr e p)):m e :=
 let ⟨q,h'⟩:=a7 h;Stmt.Expr.elim (motive_2:=fun e=>∀ (q:e.ctorIdx=24),Stmt.Expr.elim (motive_2:=fun zz=>Bool) e q (fun e zz=>kf e)=true→m e) e q (fun e p zz h=>kk e p h) q h'
noncomputable def fR (e:Stmt) (kf:List Expr→Expr→Bool):Bool:=if h:e.ctorIdx=5 then Stmt.Assign.elim (motive_2:=fun zz=>Bool) e h (fun ts v zz=>kf ts v) else false
theorem eC {e:Stmt}{kf:List Expr→Expr→Bool}{m:Stmt→Prop}(h:fR e kf=true) (kk:∀ ts v p,kf ts v=true→m (.Assign ts v p)):m e :=
 let ⟨q,h'⟩:=a7 h;Stmt.Assign.elim (motive_2:=fun e=>∀ (q:e.ctorIdx=5),Stmt.Assign.elim (motive_2:=fun zz=>Bool) e q (fun ts v zz=>kf ts v)=true→m e) e q (fun ts v p zz h=>kk ts v p h) q h'
noncomputable def wo (e:Stmt) (kf:Expr→Operator→Expr→Bool):Bool:=if h:e.ctorIdx=7 then Stmt.AugAssign.elim (motive_2:=fun zz=>Bool) e h (fun t o v zz=>kf t o v) else false
theorem rS {e:Stmt}{kf:Expr→Operator→Expr→Bool}{m:Stmt→Prop}(h:wo e kf=true) (kk:∀ t o v p,kf t o v=true→m (.AugAssign t o v p)):m e :=
 let ⟨q,h'⟩:=a7 h;Stmt.AugAssign.elim (motive_2:=fun e=>∀ (q:e.ctorIdx=7),Stmt.AugAssign.elim (motive_2:=fun zz=>Bool) e q (fun t o v zz=>kf t o v)=true→m e) e q (fun t o v p zz h=>kk t o v p h) q h'
noncomputable def D8 (e:Stmt) (kf:Expr→List Stmt→List Stmt→Bool):Bool:=if h:e.ctorIdx=12 then Stmt.If.elim (motive_2:=fun zz=>Bool) e h (fun e as bs zz=>kf e as bs) else false
theorem Cd {e:Stmt}{kf:Expr→List Stmt→List Stmt→Bool}{m:Stmt→Prop}(h:D8 e kf=true) (kk:∀ e as bs p,kf e as bs=true→m (.If e as bs p)):m e :=
 let ⟨q,h'⟩:=a7 h;Stmt.If.elim (motive_2:=fun e=>∀ (q:e.ctorIdx=12),Stmt.If.elim (motive_2:=fun zz=>Bool) e q (fun e as bs zz=>kf e as bs)=true→m e) e q (fun e as bs p zz h=>kk e as bs p h) q h'
noncomputable def u7 (e:Stmt) (kf:Expr→List Stmt→List Stmt→Bool):Bool:=if h:e.ctorIdx=11 then Stmt.While.elim (motive_2:=fun zz=>Bool) e h (fun e bs el zz=>kf e bs el) else false
theorem wp {e:Stmt}{kf:Expr→List Stmt→List Stmt→Bool}{m:Stmt→Prop}(h:u7 e kf=true) (kk:∀ e bs el p,kf e bs el=true→m (.While e bs el p)):m e :=
 let ⟨q,h'⟩:=a7 h;Stmt.While.elim (motive_2:=fun e=>∀ (q:e.ctorIdx=11),Stmt.While.elim (motive_2:=fun zz=>Bool) e q (fun e bs el zz=>kf e bs el)=true→m e) e q (fun e bs el p zz h=>kk e bs el p h) q h'
noncomputable def wq (e:Stmt) (kf:Expr→Expr→List Stmt→List Stmt→Bool):Bool:=if h:e.ctorIdx=9 then Stmt.For.elim (motive_2:=fun zz=>Bool) e h (fun t e bs el zz=>kf t e bs el) else false
theorem rU {e:Stmt}{kf:Expr→Expr→List Stmt→List Stmt→Bool}{m:Stmt→Prop}(h:wq e kf=true) (kk:∀ t e bs el p,kf t e bs el=true→m (.For t e bs el p)):m e :=
 let ⟨q,h'⟩:=a7 h;Stmt.For.elim (motive_2:=fun e=>∀ (q:e.ctorIdx=9),Stmt.For.elim (motive_2:=fun zz=>Bool) e q (fun t e bs el zz=>kf t e bs el)=true→m e) e q (fun t e bs el p zz h=>kk t e bs el p h) q h'
noncomputable def rV (e:Stmt) (kf:Option Expr→Bool):Bool:=if h:e.ctorIdx=3 then Stmt.Return.elim (motive_2:=fun zz=>Bool) e h (fun e zz=>kf e) else false
theorem tS {e:Stmt}{kf:Option Expr→Bool}{m:Stmt→Prop}(h:rV e kf=true) (kk:∀ e p,kf e=true→m (.Return e p)):m e :=
 let ⟨q,h'⟩:=a7 h;Stmt.Return.elim (motive_2:=fun e=>∀ (q:e.ctorIdx=3),Stmt.Return.elim (motive_2:=fun zz=>Bool) e q (fun e zz=>kf e)=true→m e) e q (fun e p zz h=>kk e p h) q h'
noncomputable def u8 (e:Stmt) (kf:Option Expr→Option Expr→Bool):Bool:=if h:e.ctorIdx=16 then Stmt.Raise.elim (motive_2:=fun zz=>Bool) e h (fun x y zz=>kf x y) else false
theorem wr {e:Stmt}{kf:Option Expr→Option Expr→Bool}{m:Stmt→Prop}(h:u8 e kf=true) (kk:∀ x y p,kf x y=true→m (.Raise x y p)):m e :=
 let ⟨q,h'⟩:=a7 h;Stmt.Raise.elim (motive_2:=fun e=>∀ (q:e.ctorIdx=16),Stmt.Raise.elim (motive_2:=fun zz=>Bool) e q (fun x y zz=>kf x y)=true→m e) e q (fun x y p zz h=>kk x y p h) q h'
noncomputable def Br (e:Stmt) (kf:List Stmt→List ExceptHandler→List Stmt→List Stmt→Bool):Bool:=if h:e.ctorIdx=17 then Stmt.Try.elim (motive_2:=fun zz=>Bool) e h (fun bs hs el fb zz=>kf bs hs el fb) else false
theorem zR {e:Stmt}{kf:List Stmt→List ExceptHandler→List Stmt→List Stmt→Bool}{m:Stmt→Prop}(h:Br e kf=true) (kk:∀ bs hs el fb p,kf bs hs el fb=true→m (.Try bs hs el fb p)):m e :=
 let ⟨q,h'⟩:=a7 h;Stmt.Try.elim (motive_2:=fun e=>∀ (q:e.ctorIdx=17),Stmt.Try.elim (motive_2:=fun zz=>Bool) e q (fun bs hs el fb zz=>kf bs hs el fb)=true→m e) e q (fun bs hs el fb p zz h=>kk bs hs el fb p h) q h'
noncomputable def rW (e:Stmt) (kf:Expr→Bool):Bool:=if h:e.ctorIdx=19 then Stmt.Assert.elim (motive_2:=fun zz=>Bool) e h (fun e zz zz=>kf e) else false
theorem tT {e:Stmt}{kf:Expr→Bool}{m:Stmt→Prop}(h:rW e kf=true) (kk:∀ e ms p,kf e=true→m (.Assert e ms p)):m e :=
 let ⟨q,h'⟩:=a7 h;Stmt.Assert.elim (motive_2:=fun e=>∀ (q:e.ctorIdx=19),Stmt.Assert.elim (motive_2:=fun zz=>Bool) e q (fun e zz zz=>kf e)=true→m e) e q (fun e ms p zz h=>kk e ms p h) q h'
theorem Ce {e:Stmt}{m:Stmt→Prop}(h:(e.ctorIdx==25)=true) (k:∀ p,m (.Pass p)):m e:=Stmt.Pass.elim (motive_2:=m) e (eq_of_beq h) k
theorem D9 {e:Stmt}{m:Stmt→Prop}(h:(e.ctorIdx==26)=true) (k:∀ p,m (.Break p)):m e:=Stmt.Break.elim (motive_2:=m) e (eq_of_beq h) k
theorem Cf {e:Stmt}{m:Stmt→Prop}(h:(e.ctorIdx==27)=true) (k:∀ p,m (.Continue p)):m e:=Stmt.Continue.elim (motive_2:=m) e (eq_of_beq h) k
noncomputable def zS (c:Cx) (k:Nat) (n:Str):Bool:=(c.P.ex[k]?).any (fun q=>q.1==n)&&fq c.sc n
noncomputable def p9 (hs:List ExceptHandler) (f:Str→Bool):Bool:=one hs fun h=>match h with | .ExceptHandler ty nm body _=>nm.isNone&&(one body (fun p=>p.ctorIdx==25)&&ty.any fun e=>cN e f)
theorem u9 {α:Type}{x:Option α}{m:Option α→Prop}(h:x.isNone=true) (k:m none):m x:=by
 cases x with
 | none=>exact k
 | some _=>injection h
theorem mh {x:Option Expr}{f:Expr→Bool}{m:Option Expr→Prop}(h:x.any f=true) (k:∀ e,f e=true→m (some e)):m x:=by
 cases x with
 | none=>injection h
 | some e=>exact k e h
theorem rX {hs:List ExceptHandler}{kf:Str→Bool}{m:List ExceptHandler→Prop}(h:p9 hs kf=true) (k:∀ n np pp p,kf n=true→m [.ExceptHandler (some (.Name n np)) none [.Pass pp] p]):m hs :=
 cw h fun x h=>by
  obtain ⟨ty,nm,body,p⟩:=x
  refine aq h fun h1 h=>aq h fun h2 h3=>u9 (m:=fun nm=>m [.ExceptHandler ty nm body p]) h1 (cw (m:=fun body=>m [.ExceptHandler ty none body p]) h2 fun q h2=>Ce (m:=fun q=>m [.ExceptHandler ty none [q] p]) h2 fun pp=>?_)
  exact mh (m:=fun ty=>m [.ExceptHandler ty none [.Pass pp] p]) h3 fun e h3=>bu (m:=fun e=>m [.ExceptHandler (some e) none [.Pass pp] p]) h3 fun n np h=>k n np pp p h
noncomputable def jz:List Expr→List Str→Prop
 | [],ns=>ns=[]
 | t :: r,ns=>∃ n p ns',t = .Name n p∧ns=n :: ns'∧jz r ns'
mutual
noncomputable def okS (c:Cx):S→Stmt→Bool
 | .expr x,t=>pi t fun e=>gS e&&okX c x e
 | .set i x,t=>fR t fun ts v=>one ts fun t=>cN t fun n=>okV c i n&&gS v&&okX c x v
 | .setT is rev x,t=>fR t fun ts v=>one ts fun t=>kQ t fun ts =>
  gS v&&kY ts (fun ns=>dX c is ns&&((rev==false&&swS ts v c.sc==some none)||(rev==true&&swS ts v c.sc==some (some ns))))&&okX c x v
 | .setL is x,t=>fR t fun ts v=>one ts fun t=>kQ t fun ts=>gS v&&kY ts (fun ns=>dX c is ns&&swS ts v c.sc==some none)&&okX c x v
 | .setA o a x,t=>fR t fun ts v=>one ts fun t=>dI t fun oe nm zz=>gS v&&nm==c.P.an a&&okX c o oe&&okX c x v
 | .augA o a op x,t=>wo t fun t op' v=>dI t fun oe nm zz=>op'==op.py&&nm==c.P.an a&&okX c o oe&&okX c x v
 | .aug i op x,t=>wo t fun t op' v=>cN t fun n=>op'==op.py&&okV c i n&&okX c x v
 | .ite q a b,t=>D8 t fun e as bs=>okX c q e&&okB c a as&&okB c b bs
 | .whl q b,t=>u7 t fun e bs el=>el.isEmpty&&(okX c q e&&okB c b bs)
 | .for1 i x b,t=>wq t fun t e bs el=>el.isEmpty&&cN t fun n=>okV c i n&&i5 e&&okX c x e&&okB c b bs
 | .ret x,t=>rV t fun e=>e.any fun e=>okX c x e
 | .brk,t=>t.ctorIdx==26
 | .cont,t=>t.ctorIdx==27
 | .asrt x,t=>rW t fun e=>okX c x e
 | .raise k,t=>u8 t fun e y=>y.isNone&&e.any fun e=>fP e fun n es=>es.isEmpty&&zS c k n
 | .try1 b k,t=>Br t fun bs hs el fb=>el.isEmpty&&fb.isEmpty&&okB c b bs&&p9 hs fun n=>zS c k n
noncomputable def okB (c:Cx):List S→List Stmt→Bool
 | [],ts=>ts.isEmpty
 | s :: r,ts=>match ts with | t :: q=>okS c s t&&okB c r q | []=>false
end
theorem Cg {c:Cx}{ts:List Stmt}{m:List Stmt→Prop}(h:okB c [] ts=true) (k:m []):m ts:=cO h k
theorem zT {c:Cx}{x:S}{xs:List S}{es:List Stmt}{m:List Stmt→Prop}(h:okB c (x :: xs) es=true) (k:∀ e r,okS c x e=true→okB c xs r=true→m (e :: r)):m es:=by
 cases es with
 | nil=>injection h
 | cons e r=>exact aq h fun a b=>k e r a b
theorem jA:∀ {ts:List Expr}{f:List Str→Bool},kY ts f=true→∃ ns,jz ts ns∧f ns=true
 | [],f,h=>⟨[],rfl,h⟩
 | t :: r,f,h=>bu (m:=fun t=>∃ ns,jz (t :: r) ns∧f ns=true) h fun n p h=>let ⟨ns,a,b⟩:=jA h;⟨n :: ns,⟨n,p,ns,rfl,rfl,a⟩,b⟩
structure StS (pu:Bool) (ow:List Addr) (φ:Phi) (h:Heap) (φ':Phi) (h':Heap):Prop where
 grow:bM φ h φ'
 keep:bS φ ow h h'
 pu:pu=true→φ'=φ∧∀ b o,h.get? b=some o→b∉ow→h'.get? b=some o
inductive Fl where | flow (f:Flow) | thr (e:Value)
noncomputable def Ea (Q:Flow→Shared→Prop) (E:Value→Shared→Prop):Fl→Shared→Prop
 | .flow f,s=>Q f s
 | .thr e,s=>E e s
noncomputable def i8 (P:Pg) (w:World) (h₀:Heap) (env:Env) (pu:Bool) (hb:Heap) (φ:Phi) (h:Heap):Out→Fl→Prop
 | .next,f=>f = .flow .next
 | .brk,f=>f = .flow .brk
 | .cont,f=>f = .flow .cont
 | .ret v,f=>∃ u,f = .flow (.ret u)∧Rep w φ h v u
 | .exc k,f=>∃ q e,P.ex[k]? = some q∧f = .thr (.ref e)∧pu=false∧dC h₀ φ hb h env q.2 e
section
variable {N:aH}{prog:Program}{w:World}{h₀ h h' h₁:Heap}{σ σ' σ₁ σ₂:St}{φ φ' φ₁ φ₂:Phi}{env:Env}{vars:List Str}{ρ ρ' ρ₁:Rho}{A:Around}{E:Value→Shared→Prop}{s:Shared}{G:Sg}{K:Frag}{ga ba:Addr}{n m:Nat}{c:Cx}{o:Out}
noncomputable abbrev dY (G:Sg) (N:aH) (w:World) (h₀:Heap) (pu:Bool) (o:Out) (ρ':Rho) (σ':St) (env:Env) (vars:List Str) (φ:Phi) (s:Shared) (Q:Flow→Shared→Prop) (E:Value→Shared→Prop):Prop :=
 ∀ φ' h' tk f,StS pu (own env) φ s.heap φ' h'→Rel N w h₀ σ' φ' h'→Fra w h₀ φ' env vars ρ' h'→i8 G.P w h₀ env pu s.heap φ' h' o f→Ea Q E f { s with heap:=h',toks:=tk}
theorem StS.of {p:Bool}{ow:List Addr}(x:Stp p φ h φ' h'):StS p ow φ h φ' h':=⟨x.grow,fun b o e n zz=>x.keep b o e n List.not_mem_nil,fun e=>let ⟨a,b⟩:=x.pu e;⟨a,fun c o e zz=>b c o e⟩⟩
theorem StS.refl (p:Bool) {ow:List Addr} : StS p ow φ h φ h:=.of (.refl _ _ _)
theorem StS.weak {p q:Bool}{ow:List Addr}(x:StS p ow φ h φ' h') (l:q=true→p=true):StS q ow φ h φ' h':=⟨x.grow,x.keep,fun e=>x.pu (l e)⟩
theorem StS.trans {p q:Bool}{ow:List Addr}{h'':Heap}(x:StS p ow φ h φ' h') (R:Rel N w h₀ σ φ' h') (ho:∀ o∈ow,o∉au φ₂) (y:StS q ow φ' h' φ₂ h''):StS (p&&q) ow φ h φ₂ h'' :=
 ⟨x.grow.trans x.keep ho y.grow fun m hm=>R.mut_some m (x.grow.mem hm),bS.trans x.grow x.keep y.keep,fun e=>by
  rw [Bool.and_eq_true] at e
  obtain ⟨a,b⟩:=x.pu e.1;obtain ⟨a',b'⟩:=y.pu e.2
  exact ⟨a'.trans a,fun c o e n=>b' _ _ (b _ _ e n) n⟩⟩
theorem StS.some {p:Bool}(x:StS p (own env) φ h φ₁ h₁) (R:Rel N w h₀ σ₁ φ₁ h₁) (F:Fra w h₀ φ₁ env vars ρ₁ h₁) {b:Addr}(e:h₁.get? b=none):h.get? b=none:=by
 cases q:h.get? b with
 | none=>rfl
 | some o =>
  exfalso
  by_cases m1:b∈au φ
  ·have:=R.mut_some b (x.grow.mem m1);rw [e] at this;injection this
  ·by_cases m2:b∈own env
   ·obtain ⟨_,z⟩:=F.own_some b m2;rw [e] at z;injection z
   ·obtain ⟨_,z,_⟩:=x.keep b o q m1 m2;rw [e] at z;injection z
theorem Xc.early {φ':Phi}{hb hb' h':Heap}{C e:Addr}{f:Option Value}(n:∀ b,hb'.get? b=none→hb.get? b=none) (x:Xc h₀ φ' hb' h' C e f):Xc h₀ φ' hb h' C e f:=by
 cases x with
 | bare oe vs m g c d v=>exact .bare oe vs ⟨m.1,m.2.1,n _ m.2.2⟩ g c d v
 | held oe vs m g c d T oT ts f v ne m' gT dT t=>exact .held oe vs ⟨m.1,m.2.1,n _ m.2.2⟩ g c d T oT ts f v ne ⟨m'.1,m'.2.1,n _ m'.2.2⟩ gT dT t
theorem dC.early {φ':Phi}{hb hb' h':Heap}{C e:Addr}(n:∀ b,hb'.get? b=none→hb.get? b=none) (x:dC h₀ φ' hb' h' env C e):dC h₀ φ' hb h' env C e:=let ⟨L,a,b⟩:=x;⟨L,a,b.imp (Xc.early n) (Xc.early n)⟩
theorem ff {p q:Bool}(le:q=true→p=true) (d:p=false):q=false:=by
 cases q with
 | false=>rfl
 | true=>rw [le rfl] at d;injection d
theorem i8.early {P:Pg}{hb hb':Heap}{f:Fl}{p q:Bool}(n:∀ b,hb'.get? b=none→hb.get? b=none) (le:q=true→p=true):∀ {o:Out},i8 P w h₀ env p hb' φ' h' o f→i8 P w h₀ env q hb φ' h' o f
 | .next,x=>x
 | .brk,x=>x
 | .cont,x=>x
 | .ret _,x=>x
 | .exc _,⟨q',e,a,b,d,c⟩=>⟨q',e,a,b,ff le d,c.early n⟩
theorem dY.then {p q pu:Bool}{Q:Flow→Shared→Prop}{tk:Tok}(h:dY G N w h₀ pu o ρ' σ' env vars φ s Q E) (S:StS p (own env) φ s.heap φ₁ h₁) (R:Rel N w h₀ σ₁ φ₁ h₁) (F:Fra w h₀ φ₁ env vars ρ₁ h₁) (le:pu=true→p=true∧q=true):dY G N w h₀ q o ρ' σ' env vars φ₁ { s with heap:=h₁,toks:=tk} Q E:=fun φ' h' tk f S' R' F' fl =>
 h φ' h' tk f ((S.trans R F'.notm S').weak fun e=>by rw [(le e).1,(le e).2];rfl) R' F' (fl.early (fun zz e=>S.some R F e) fun z=>(le z).2)
theorem StS.fr {p:Bool}(S:StS p (own env) φ h φ₁ h₁) (F:Fra w h₀ φ₁ env vars ρ₁ h₁) (f:bw h₀ A φ h) (F0:Fra w h₀ φ env vars ρ h):bw h₀ A φ₁ h₁:=f.keep S.grow S.keep fun b m o e d=>by
 rw [aai.mp m]
 obtain ⟨_,⟨o',es,n,e',d',_⟩,_⟩:=F.ns
 exact ⟨o',e',es,n,d'⟩
theorem StS.still {p:Bool}(S:StS p (own env) φ h φ₁ h₁) (R:Rel N w h₀ σ₁ φ₁ h₁) (F:Fra w h₀ φ₁ env vars ρ₁ h₁) (f:bw h₀ A φ h) (F0:Fra w h₀ φ env vars ρ h):cC N w h₀ A σ₁ φ₁ env vars ρ₁ h h₁ :=
 ⟨R,F,S.fr F f F0,fun b o e m1 m2=>S.keep b o e (fun z=>m1 (S.grow.mem z)) m2⟩
theorem cC.sts {p:Bool}(T:cC N w h₀ A σ₁ φ₁ env vars ρ₁ h h') (S:StS p (own env) φ h φ₁ h₁) (hp:p=false):StS p (own env) φ h φ₁ h' :=
 ⟨S.grow,fun b o e m1 m2=>T.up b o e (S.grow.notmem e m1) m2,fun z=>by rw [hp] at z;injection z⟩
theorem dY.thru {k:Nat}{pu:Bool}{Q:Flow→Shared→Prop}{f:Fl}{tk:Tok}(h:dY G N w h₀ pu (.exc k) ρ₁ σ₁ env vars φ s Q E) (tp:Top A env) (S:StS pu (own env) φ s.heap φ₁ h₁) (R:Rel N w h₀ σ₁ φ₁ h₁) (F:Fra w h₀ φ₁ env vars ρ₁ h₁) (fr:bw h₀ A φ s.heap) (F0:Fra w h₀ φ env vars ρ s.heap) (fl:i8 G.P w h₀ env pu s.heap φ₁ h₁ (.exc k) f) :
 ∃ e,f = .thr (.ref e)∧notedBy (model prog w) A env (fun x s'=>cameBackBy (model prog w) A env E x s') (.ref e) { s with heap:=h₁,toks:=tk}:=by
 obtain ⟨q,e,hq,rfl,hp,th⟩:=fl
 exact ⟨e,rfl,dC.thru (s:={ s with heap:=h₁,toks:=tk}) tp (S.still R F fr F0) th fun h' T th'=>h φ₁ h' tk (.thr (.ref e)) (T.sts S hp) T.R T.F ⟨q,e,hq,rfl,hp,th'⟩⟩
theorem Pre.stepS {p:Bool}{tk:Tok}(P:Pre G N w h₀ ga ba n c env A ρ σ φ s) (S:StS p (own env) φ s.heap φ₁ h₁) (R:Rel N w h₀ σ₁ φ₁ h₁) (F:Fra w h₀ φ₁ env c.vars ρ₁ h₁):Pre G N w h₀ ga ba n c env A ρ₁ σ₁ φ₁ { s with heap:=h₁,toks:=tk}:=⟨P.cx,P.a,S.fr F P.fr P.F,R,F⟩
noncomputable def dM (G:Sg) (prog:Program) (w:World) (N:aH) (h₀:Heap) (ga ba:Addr) (n m:Nat) (t:S):Prop:=∀ (c:Cx) (env:Env) (t':Stmt) (ρ ρ':Rho) (σ σ':St) (o:Out) (φ:Phi) (s:Shared) (A:Around) (E:Value→Shared→Prop) (Q:Flow→Shared→Prop),
 okS c t t'=true→Pre G N w h₀ ga ba n c env A ρ σ φ s→Top A env→exS G m t ρ σ=some (o,ρ',σ')→dY G N w h₀ (eK t) o ρ' σ' env c.vars φ s Q E→wpAny (model prog w) A (exec t' env) Q E s
noncomputable def ik (G:Sg) (prog:Program) (w:World) (N:aH) (h₀:Heap) (ga ba:Addr) (n m:Nat) (ts:List S):Prop:=∀ (c:Cx) (env:Env) (ts':List Stmt) (ρ ρ':Rho) (σ σ':St) (o:Out) (φ:Phi) (s:Shared) (A:Around) (E:Value→Shared→Prop) (Q:Flow→Shared→Prop),
 okB c ts ts'=true→Pre G N w h₀ ga ba n c env A ρ σ φ s→Top A env→exB G m ts ρ σ=some (o,ρ',σ')→dY G N w h₀ (pureB ts) o ρ' σ' env c.vars φ s Q E→wpAny (model prog w) A (execs ts' env) Q E s
theorem zU {α:Type}{x:Option (α×St)}{f:α×St→Out×Rho×St}{pu:Bool}{Q:Flow→Shared→Prop}{C:Prop}(e:x.map f=some (o,ρ',σ')) (h:dY G N w h₀ pu o ρ' σ' env vars φ s Q E) (k:∀ a τ,x=some (a,τ)→dY G N w h₀ pu (f (a,τ)).1 (f (a,τ)).2.1 (f (a,τ)).2.2 env vars φ s Q E→C):C:=by
 obtain ⟨a,p,q⟩:=map_some e
 refine k a.1 a.2 p ?_
 rw [show f (a.1,a.2)=(o,ρ',σ') from q];exact h
theorem k6 {α:Type}{x:Option α}{f:α→Out×Rho×St}{pu:Bool}{Q:Flow→Shared→Prop}{C:Prop}(e:x.map f=some (o,ρ',σ')) (h:dY G N w h₀ pu o ρ' σ' env vars φ s Q E) (k:∀ a,x=some a→dY G N w h₀ pu (f a).1 (f a).2.1 (f a).2.2 env vars φ s Q E→C):C:=by
 obtain ⟨a,p,q⟩:=map_some e
 refine k a p ?_
 rw [show f a=(o,ρ',σ') from q];exact h
theorem Gv:(ik G prog w N h₀ ga ba n m) []:=fun c env ts' ρ ρ' σ σ' o φ s A E Q ok P tp e h=>by
 refine Cg (m:=fun z=>wpAny _ A (execs z env) Q E s) ok ?_
 (injection e with hE;injection hE with hA hE;injection hE with hB hC;subst hA;subst hB;subst hC)
 exact wpAny_execs_nil (h φ s.heap s.toks (.flow .next) (.refl _) P.R P.F rfl)
theorem Eb {t:S}{r:List S}(ht:(dM G prog w N h₀ ga ba n m) t) (hr:(ik G prog w N h₀ ga ba n m) r):(ik G prog w N h₀ ga ba n m) (t :: r):=fun c env ts' ρ ρ' σ σ' o φ s A E Q ok P tp e h=>by
 refine zT (m:=fun z=>wpAny _ A (execs z env) Q E s) ok fun t' r' o1' o2'=>?_
 refine qF e fun o1 ρ1 σ1 e1 e=>?_
 have le:pureB (t :: r)=true→eK t=true∧pureB r=true:=fun z=>bn z
 refine wpAny_execs_cons (ht _ _ _ _ _ _ _ _ _ _ _ _ _ o1' P tp e1 fun φ1 h1 t1 f S1 R1 F1 fl=>?_)
 cases o1 with
 | next =>
  cases fl
  exact hr _ _ _ _ _ _ _ _ _ _ _ _ _ o2' (P.stepS S1 R1 F1) tp e (h.then S1 R1 F1 le)
 | ret v =>
  (injection e with hE;injection hE with hA hE;injection hE with hB hC;subst hA;subst hB;subst hC)
  have z:=h φ1 h1 t1 f (S1.weak fun z=>(le z).1) R1 F1 (fl.early (fun zz e=>e) fun z=>(le z).1)
  obtain ⟨u,rfl,r⟩:=fl
  exact z
 | exc k =>
  (injection e with hE;injection hE with hA hE;injection hE with hB hC;subst hA;subst hB;subst hC)
  have z:=h φ1 h1 t1 f (S1.weak fun z=>(le z).1) R1 F1 (fl.early (fun zz e=>e) fun z=>(le z).1)
  obtain ⟨q,x,_,rfl,_⟩:=fl
  exact z
 | _ =>
  (injection e with hE;injection hE with hA hE;injection hE with hB hC;subst hA;subst hB;subst hC)
  have z:=h φ1 h1 t1 f (S1.weak fun z=>(le z).1) R1 F1 (fl.early (fun zz e=>e) fun z=>(le z).1)
  cases fl
  exact z
theorem il {e:Expr}{t:Option Expr}{l:Nat}(h:gS e=true):swapsWith e t l env=pure false:=by
 cases e<;>first | rfl | injection h
theorem Ch {x:X}(hx:(ay G prog w N h₀ ga ba n) x):(dM G prog w N h₀ ga ba n m) (.expr x):=fun c env t' ρ ρ' σ σ' o φ s A E Q ok P tp e h=>by
 refine nw (m:=fun z=>wpAny _ A (exec z env) Q E s) ok fun x p okk=>aq okk fun o1 o2=>?_
 refine zU e h fun v σ1 e1 h=>?_
 refine wpAny_Expr_any (hx _ _ _ _ _ _ _ _ _ _ _ _ o2 P e1 fun φ1 h1 t1 u S1 R1 r1=>h φ1 h1 t1 (.flow .next) (.of S1) R1 (S1.fra P.F) rfl) ?_ (il o1)
 unfold interactive;rw [P.F.fn];rfl
theorem Ec {x:X}(hx:(ay G prog w N h₀ ga ba n) x):(dM G prog w N h₀ ga ba n m) (.ret x):=fun c env t' ρ ρ' σ σ' o φ s A E Q ok P tp e h=>by
 refine tS (m:=fun z=>wpAny _ A (exec z env) Q E s) ok fun x p okk=>mh (m:=fun z=>wpAny _ A (exec (.Return z p) env) Q E s) okk fun y o1=>?_
 refine zU e h fun v σ1 e1 h=>?_
 exact wpAny_Return_some (hx _ _ _ _ _ _ _ _ _ _ _ _ o1 P e1 fun φ1 h1 t1 u S1 R1 r1=>h φ1 h1 t1 (.flow (.ret u)) (.of S1) R1 (S1.fra P.F) ⟨u,rfl,r1⟩)
theorem Ed {x:X}{a b:List S}(hx:(dL G prog w N h₀ ga ba n) x) (ha:(ik G prog w N h₀ ga ba n m) a) (hb:(ik G prog w N h₀ ga ba n m) b):(dM G prog w N h₀ ga ba n m) (.ite x a b):=fun c env t' ρ ρ' σ σ' o φ s A E Q ok P tp e h=>by
 refine Cd (m:=fun z=>wpAny _ A (exec z env) Q E s) ok fun te y z p okk=>aI okk fun o1 o2 o3=>?_
 refine aC e fun v σ1 e1 e=>?_;refine bq e fun t e2 e4=>?_
 clear e
 dsimp only at e2 e4
 have le:eK (.ite x a b)=true→aK x=true∧pureB a=true∧pureB b=true:=fun z=>by
  have z:=ew z;exact ⟨z.1.1,z.1.2,z.2⟩
 refine wpAny_If (hx _ _ _ _ _ _ _ _ _ _ _ _ _ o1 P e1 e2 fun φ1 h1 t1 S1 R1=>?_)
 cases t with
 | true=>exact ha _ _ _ _ _ _ _ _ _ _ _ _ _ o2 (P.step S1 R1) tp e4 (h.then (.of S1) R1 (S1.fra P.F) fun z=>⟨(le z).1,(le z).2.1⟩)
 | false=>exact hb _ _ _ _ _ _ _ _ _ _ _ _ _ o3 (P.step S1 R1) tp e4 (h.then (.of S1) R1 (S1.fra P.F) fun z=>⟨(le z).1,(le z).2.2⟩)
theorem Ee:(dM G prog w N h₀ ga ba n m) .brk:=fun c env t' ρ ρ' σ σ' o φ s A E Q ok P tp e h=>by
 refine D9 (m:=fun z=>wpAny _ A (exec z env) Q E s) ok fun p=>?_
 (injection e with hE;injection hE with hA hE;injection hE with hB hC;subst hA;subst hB;subst hC)
 exact wpAny_Break (h φ s.heap s.toks (.flow .brk) (.refl _) P.R P.F rfl)
theorem Ci:(dM G prog w N h₀ ga ba n m) .cont:=fun c env t' ρ ρ' σ σ' o φ s A E Q ok P tp e h=>by
 refine Cf (m:=fun z=>wpAny _ A (exec z env) Q E s) ok fun p=>?_
 (injection e with hE;injection hE with hA hE;injection hE with hB hC;subst hA;subst hB;subst hC)
 exact wpAny_Continue (h φ s.heap s.toks (.flow .cont) (.refl _) P.R P.F rfl)
theorem Cj {x:X}(hx:(dL G prog w N h₀ ga ba n) x):(dM G prog w N h₀ ga ba n m) (.asrt x):=fun c env t' ρ ρ' σ σ' o φ s A E Q ok P tp e h=>by
 refine tT (m:=fun z=>wpAny _ A (exec z env) Q E s) ok fun te ms p okk=>?_
 refine aC e fun v σ1 e1 e=>?_;refine bq e fun t e2 e=>?_
 refine wpAny_Assert_holds (hx _ _ _ _ _ _ _ _ _ _ _ _ _ okk P e1 e2 fun φ1 h1 t1 S1 R1=>?_)
 cases t with
 | true=>(injection e with hE;injection hE with hA hE;injection hE with hB hC;subst hA;subst hB;subst hC);exact ⟨rfl,h φ1 h1 t1 (.flow .next) (.of S1) R1 (S1.fra P.F) rfl⟩
 | false=>exact bH e
theorem nA {i:Nat}{v:V}{u:Value}{nm:Str}{p:Bool}{tk:Tok}{Q:Unit→Shared→Prop}(P:Pre G N w h₀ ga ba n c env A ρ σ φ s) (ok:okV c i nm=true) (S:StS p (own env) φ s.heap φ₁ h₁) (R:Rel N w h₀ σ₁ φ₁ h₁) (F:Fra w h₀ φ₁ env c.vars ρ₁ h₁) (r:Rep w φ₁ h₁ v u)
 (h:∀ h' tk,StS p (own env) φ s.heap φ₁ h'→Rel N w h₀ σ₁ φ₁ h'→Fra w h₀ φ₁ env c.vars (ρ₁.set i (some v)) h'→f6 (own env) h₁ h'→Q () { s with heap:=h',toks:=tk}) :
 wpAny (model prog w) A (storeName env nm u) Q E { s with heap:=h₁,toks:=tk}:=by
 have ok:=bn ok
 refine F.store (s:={ s with heap:=h₁,toks:=tk}) R P.cx.nd (eq_of_beq ok.1) (P.cx.sc▸ok.2) r fun h' tk' K F' R'=>h h' tk' ?_ R' F' K
 refine ⟨S.grow,fun b o e n1 n2=>let ⟨o',e',a⟩:=S.keep _ _ e n1 n2;⟨o',K _ _ e' n2,a⟩,fun z=>?_⟩
 obtain ⟨a,b⟩:=S.pu z
 exact ⟨a,fun b' o e n2=>K _ _ (b _ _ e n2) n2⟩
end
section
variable {N:aH}{prog:Program}{w:World}{h₀ h h' h₁:Heap}{σ σ' σ₁ σ₂:St}{φ φ' φ₁ φ₂:Phi}{env:Env}{vars:List Str}{ρ ρ' ρ₁ ρ₂:Rho}{A:Around}{E:Value→Shared→Prop}{s:Shared}{G:Sg}{K:Frag}{ga ba:Addr}{n m:Nat}{c:Cx}{o:Out}
theorem StS.ext {p:Bool}{ow:List Addr}{h'':Heap}(x:StS p ow φ h φ' h') (y:Ext h' h''):StS p ow φ h φ' h'':=⟨x.grow,fun b o e n1 n2=>let ⟨o',e',a⟩:=x.keep _ _ e n1 n2;⟨o',y _ _ e',a⟩,fun e=>let ⟨a,b⟩:=x.pu e;⟨a,fun c o e' n=>y _ _ (b c o e' n)⟩⟩
theorem Ef {i:Nat}{x:X}(hx:(ay G prog w N h₀ ga ba n) x):(dM G prog w N h₀ ga ba n m) (.set i x):=fun c env t' ρ ρ' σ σ' o φ s A E Q ok P tp e h=>by
 refine eC (m:=fun z=>wpAny _ A (exec z env) Q E s) ok fun ts v pos k1=>cw (m:=fun z=>wpAny _ A (exec (.Assign z v pos) env) Q E s) k1 fun t k1=>bu (m:=fun z=>wpAny _ A (exec (.Assign [z] v pos) env) Q E s) k1 fun nm p okk=>aI okk fun ov onc ox=>zU e h fun v1 σ1 e1 h=>?_
 exact wpAny_Assign_Name (hx _ _ _ _ _ _ _ _ _ _ _ _ ox P e1 fun φ1 h1 t1 u S1 R1 r1=>nA P ov (.of S1) R1 (S1.fra P.F) r1 fun h' tk S' R' F' zz=>h φ1 h' tk (.flow .next) S' R' F' rfl) (il onc)
noncomputable def wt (prog:Program) (w:World) (env:Env):List Str→List (Value→Sem Unit)→Prop
 | [],as=>as=[]
 | nm :: ns,as=>∃ a r,as=a :: r∧(∀ (A:Around) (E:Value→Shared→Prop) (u:Value) (Q:Unit→Shared→Prop) (s:Shared),wpAny (model prog w) A (storeName env nm u) Q E s→wpAny (model prog w) A (a u) Q E s)∧wt prog w env ns r
theorem jB {env:Env} : ∀ {ts:List Expr}{ns:List Str},jz ts ns→wt prog w env ns ((assignEach ts env).map (·.2))∧(assignEach ts env).length=ns.length∧(assignEach ts env).findIdx? (·.1)=none
 | [],ns,h=>by cases h;exact ⟨rfl,rfl,rfl⟩
 | t :: r,ns,h=>by
  obtain ⟨nm,p,ns',rfl,rfl,h1⟩:=h
  obtain ⟨a,b,d⟩:=jB (env:=env) h1
  have e:assignEach (.Name nm p :: r) env=(false,assign (.Name nm p) env) :: assignEach r env:=rfl
  rw [e]
  exact ⟨⟨_,_,rfl,fun A E u Q s h=>wpAny_assign_Name h,a⟩,congrArg (· + 1) b,by rw [List.findIdx?_cons,d];rfl⟩
theorem qa {env:Env} : ∀ (ns:List Str),wt prog w env ns (ns.map fun n=>bindName env n)
 | []=>rfl
 | nm :: ns=>⟨_,_,rfl,fun A E u Q s h=>wpAny_bindName h,qa ns⟩
theorem mi {ns:List Str}{m:List Str→Prop}(h:dX c [] ns=true) (k:m []):m ns:=cO h k
theorem ke {i:Nat}{is:List Nat}{ns:List Str}{m:List Str→Prop}(h:dX c (i :: is) ns=true) (k:∀ n r,okV c i n=true→dX c is r=true→m (n :: r)):m ns:=by
 cases ns with
 | nil=>injection h
 | cons n r=>exact aq h fun a b=>k n r a b
theorem wu {vs:List V}{ρ ρ':Rho}{m:List V→Rho→Prop}(h:fz [] vs ρ=some ρ') (k:m [] ρ):m vs ρ':=by
 cases vs with
 | nil=>obtain rfl:=aaa h;exact k
 | cons _ _=>injection h
theorem tU {i:Nat}{is:List Nat}{vs:List V}{ρ ρ':Rho}{m:List V→Prop}(h:fz (i :: is) vs ρ=some ρ') (k:∀ v r,fz is r (ρ.set i (some v))=some ρ'→m (v :: r)):m vs:=by
 cases vs with
 | nil=>injection h
 | cons v r=>exact k v r h
theorem jC:∀ {is:List Nat}{ns:List Str},dX c is ns=true→is.length=ns.length
 | [],_,h=>mi (m:=fun ns=>([]:List Nat).length=ns.length) h rfl
 | i :: is,_,h=>ke (m:=fun ns=>(i :: is).length=ns.length) h fun zz zz zz h=>congrArg (· + 1) (jC h)
theorem gJ:∀ {is:List Nat}{vs:List V}{ρ ρ':Rho},fz is vs ρ=some ρ'→is.length=vs.length
 | [],_,_,_,h=>wu (m:=fun vs zz=>([]:List Nat).length=vs.length) h rfl
 | i :: is,_,_,_,h=>tU (m:=fun vs=>(i :: is).length=vs.length) h fun zz zz h=>congrArg (· + 1) (gJ h)
theorem rY:∀ {is:List Nat}{ns:List Str}{i:Nat}{nm:Str},dX c is ns=true→okV c i nm=true→dX c (is++[i]) (ns++[nm])=true
 | [],_,i,nm,h,h'=>mi (m:=fun ns=>dX c [i] (ns++[nm])=true) h (show (okV c i nm&&true)=true by rw [h'];rfl)
 | j :: is,_,i,nm,h,h'=>ke (m:=fun ns=>dX c (j :: (is++[i])) (ns++[nm])=true) h fun n r a b=>show (okV c j n&&dX c (is++[i]) (r++[nm]))=true by rw [a,rY b h'];rfl
theorem rZ:∀ {is:List Nat}{ns:List Str},dX c is ns=true→dX c is.reverse ns.reverse=true
 | [],_,h=>mi (m:=fun ns=>dX c [] ns.reverse=true) h rfl
 | j :: is,_,h=>ke (m:=fun ns=>dX c (j :: is).reverse ns.reverse=true) h fun n r a b=>by
  rw [List.reverse_cons,List.reverse_cons]
  exact rY (rZ b) a
theorem Reps.rev {w:World}{φ:Phi}{h:Heap} : ∀ {vs:List V}{us:List Value},Reps w φ h vs us→Reps w φ h vs.reverse us.reverse
 | [],_,r=>by rw [aN] at r;subst r;simp [aN]
 | _ :: _,_,r=>by
  rw [aB] at r
  obtain ⟨u,us,rfl,a,b⟩:=r
  rw [List.reverse_cons,List.reverse_cons]
  exact Reps.app (Reps.rev b) (by rw [aB];exact ⟨u,[],rfl,a,by rw [aN]⟩)
theorem gK {Q:Unit→Shared→Prop}{p:Bool}(P:Pre G N w h₀ ga ba n c env A ρ σ φ s):∀ {ns:List Str}{as:List (Value→Sem Unit)}{is:List Nat}{vs:List V}{us:List Value}{ρ₁ ρ₂:Rho}{h₁:Heap}{tk:Tok},wt prog w env ns as→dX c is ns=true→fz is vs ρ₁=some ρ₂→Reps w φ₁ h₁ vs us →
 StS p (own env) φ s.heap φ₁ h₁→Rel N w h₀ σ₁ φ₁ h₁→Fra w h₀ φ₁ env c.vars ρ₁ h₁ →
 (∀ h' tk,StS p (own env) φ s.heap φ₁ h'→Rel N w h₀ σ₁ φ₁ h'→Fra w h₀ φ₁ env c.vars ρ₂ h'→f6 (own env) h₁ h'→Q () { s with heap:=h',toks:=tk}) →
 wpAny (model prog w) A (assignInOrder as us) Q E { s with heap:=h₁,toks:=tk}
 | [],as,is,vs,us,ρ₁,ρ₂,h₁,tk,ac,ok,e,r,S,R,F,h=>by
  cases is with
  | cons _ _=>injection ok
  | nil =>
   cases vs with
   | cons _ _=>injection e
   | nil =>
    obtain rfl:=aaa e;cases ac
    exact wpAny_pure (h h₁ tk S R F fun zz zz e zz=>e)
 | nm :: ns,as,is,vs,us,ρ₁,ρ₂,h₁,tk,ac,ok,e,r,S,R,F,h=>by
  cases is with
  | nil=>injection ok
  | cons i is =>
   cases vs with
   | nil=>injection e
   | cons v vs =>
    refine aq ok fun ok1 ok2=>?_
    obtain ⟨a,as',rfl,ha,ac'⟩:=ac
    rw [aB] at r
    obtain ⟨u,us',rfl,r1,r2⟩:=r
    refine wpAny_bind (wpAny_holding (ha A E u _ _ (nA P ok1 S R F r1 fun h' tk' S' R' F' K'=>?_)))
    exact gK P ac' ok2 e (r2.mono (.refl _ _) K'.keep F.own_ok) S' R' F' fun h'' tk'' S'' R'' F'' K''=>h h'' tk'' S'' R'' F'' fun b o e nb=>K'' _ _ (K' _ _ e nb) nb
theorem iU {h h':Heap}(x:Heap.ExtBut h.objs.size h h'):Ext h h':=fun b o e=>x b o (Nat.ne_of_lt (Heap.lt_size e)) e
theorem wv {is:List Nat}{rev:Bool}{v:V}{ρ ρ':Rho}(e:rO is rev v ρ=some ρ'):∃ vs,v = .tup vs∧rO is rev (.tup vs) ρ=some ρ':=by
 cases v<;>first | exact ⟨_,rfl,e⟩ | injection e
theorem vd {vs:List V}{u:Value}(r:Rep w φ h (.tup vs) u):∃ a us,u = .ref a∧h.IsTuple a (List.toArray us)∧Reps w φ h vs us:=by
 rw [hV] at r
 obtain ⟨_,a,us,n',rfl,_,ho,q⟩:=r
 exact ⟨a,us,rfl,⟨_,ho,rfl,_,rfl⟩,q⟩
theorem Ck {is:List Nat}{rev:Bool}{x:X}(hx:(ay G prog w N h₀ ga ba n) x):(dM G prog w N h₀ ga ba n m) (.setT is rev x):=fun c env t' ρ ρ' σ σ' o φ s A E Q ok P tp e h=>by
 refine eC (m:=fun z=>wpAny _ A (exec z env) Q E s) ok fun ts v pos k1=>cw (m:=fun z=>wpAny _ A (exec (.Assign z v pos) env) Q E s) k1 fun t k1=>gI (m:=fun z=>wpAny _ A (exec (.Assign [z] v pos) env) Q E s) k1 fun ts k p okk=>aI okk fun onc on ox=>?_
 refine aC e fun v1 σ1 e1 e=>k6 e h fun ρ1 e2 h=>?_
 obtain ⟨ns,hns,on⟩:=jA on
 refine aq on fun ovs osw=>?_
 obtain ⟨vs,rfl,e2⟩:=wv e2
 have hsole:swapsWithSole [.Tuple ts k p] v pos.line env=pure false:=by unfold swapsWithSole;exact il onc
 rcases (Bool.or_eq_true _ _).mp osw with osw | osw
 ·refine aq osw fun o1 q=>?_
  cases eq_of_beq o1
  obtain ⟨ac,al,ai⟩:=jB (prog:=prog) (w:=w) (env:=env) hns
  refine Assign_Tuple (hx _ _ _ _ _ _ _ _ _ _ _ _ ox P e1 fun φ1 h1 t1 u S1 R1 r1=>?_) hsole (rR P.F.fn (P.cx.sc▸eq_of_beq q))
  obtain ⟨a,us,rfl,ht,rs⟩:=vd r1
  refine wpAny_assign_Tuple P.a.1 (s:={ s with heap:=h1,toks:=t1}) ht (by rw [al,List.size_toArray,rs.len,← jC ovs,gJ e2]) ai fun h2 x2=>?_
  have X2:=iU x2
  exact gK P ac ovs e2 (rs.ext X2) ((StS.of S1).ext X2) (R1.ext X2) ((S1.fra P.F).ext X2) fun h' tk S' R' F' zz=>h φ1 h' tk (.flow .next) S' R' F' rfl
 ·refine aq osw fun o1 q=>?_
  cases eq_of_beq o1
  refine Assign_Tuple_swapped (hx _ _ _ _ _ _ _ _ _ _ _ _ ox P e1 fun φ1 h1 t1 u S1 R1 r1=>?_) hsole (rR P.F.fn (P.cx.sc▸eq_of_beq q))
  obtain ⟨a,us,rfl,ht,rs⟩:=vd r1
  have hlen:ns.length=us.toArray.size:=by
   have e3:=gJ e2
   rw [aad,aad] at e3
   rw [List.size_toArray,rs.len,← jC ovs,e3]
  rw [hlen]
  refine wpAny_unpackItems_tuple P.a.1 (s:={ s with heap:=h1,toks:=t1}) ht fun h2 x2=>?_
  have X2:=iU x2
  exact gK P (qa _) (rZ ovs) e2 (Reps.rev (rs.ext X2)) ((StS.of S1).ext X2) (R1.ext X2) ((S1.fra P.F).ext X2) fun h' tk S' R' F' zz=>h φ1 h' tk (.flow .next) S' R' F' rfl
theorem Cl {is:List Nat}{x:X}(hx:(ay G prog w N h₀ ga ba n) x):(dM G prog w N h₀ ga ba n m) (.setL is x):=fun c env t' ρ ρ' σ σ' o φ s A E Q ok P tp e h=>by
 refine eC (m:=fun z=>wpAny _ A (exec z env) Q E s) ok fun ts v pos k1=>cw (m:=fun z=>wpAny _ A (exec (.Assign z v pos) env) Q E s) k1 fun t k1=>gI (m:=fun z=>wpAny _ A (exec (.Assign [z] v pos) env) Q E s) k1 fun ts k p okk=>aI okk fun onc on ox=>?_
 refine aC e fun v1 σ1 e1 e=>k6 e h fun ρ1 e2 h=>?_
 obtain ⟨ns,hns,on⟩:=jA on
 refine aq on fun ovs osw=>?_
 have hsole:swapsWithSole [.Tuple ts k p] v pos.line env=pure false:=by unfold swapsWithSole;exact il onc
 obtain ⟨ac,al,ai⟩:=jB (prog:=prog) (w:=w) (env:=env) hns
 refine Assign_Tuple (hx _ _ _ _ _ _ _ _ _ _ _ _ ox P e1 fun φ1 h1 t1 u S1 R1 r1=>?_) hsole (rR P.F.fn (P.cx.sc▸eq_of_beq osw))
 refine m6 (m:=fun v1=>Rep w φ1 h1 v1 u→wpAny _ A (assign (.Tuple ts k p) env u) _ E { s with heap:=h1,toks:=t1}) e2 (fun vs e2 r1=>dH (m:=fun u=>wpAny _ A (assign (.Tuple ts k p) env u) _ E { s with heap:=h1,toks:=t1}) r1 fun a us n hl m ho rs=>?_) r1
 rw [arm_assign_Tuple]
 refine wpAny_bind (wpAny_standAt ?_)
 unfold unpack
 have hn:(assignEach ts env).length=us.toArray.size:=by rw [al,List.size_toArray,rs.len,← jC ovs,gJ e2]
 rw [hn,ai]
 refine wpAny_bind (wpAny_holding (kun_itemsOf (s:={ s with heap:=h1,toks:=t1}) P.a.1 ⟨_,ho,rfl,_,rfl⟩ fun h2 x2=>?_))
 have X2:=iU x2
 exact gK P ac ovs e2 (rs.ext X2) ((StS.of S1).ext X2) (R1.ext X2) ((S1.fra P.F).ext X2) fun h' tk S' R' F' zz=>h φ1 h' tk (.flow .next) S' R' F' rfl
end
section
variable {N:aH}{prog:Program}{w:World}{h₀ h h' h₁:Heap}{σ σ' σ₁ σ₂:St}{φ φ' φ₁ φ₂:Phi}{env:Env}{vars:List Str}{ρ ρ' ρ₁ ρ₂:Rho}{A:Around}{E:Value→Shared→Prop}{s:Shared}{G:Sg}{K:Frag}{ga ba:Addr}{n m:Nat}{c:Cx}{o:Out}
theorem ww {v:V}{u:Value}(g:zQ v=true) (r:Rep w φ h v u):handedIn u=true:=by
 cases v<;>try (injection g;done)
 ·rw [eY] at r;subst r;rfl
 ·rw [dG] at r;subst r;rfl
 ·rw [cW] at r;obtain ⟨t,rfl⟩:=r;rfl
 ·rw [dB] at r;obtain ⟨_,t,rfl⟩:=r;rfl
 ·obtain ⟨p,_,rfl⟩:=r;rfl
 ·obtain ⟨_,a,_,_,rfl,_⟩:=r;rfl
 ·obtain ⟨_,a,_,_,rfl,_⟩:=r;rfl
 ·obtain ⟨a,_,_,rfl,_⟩:=r;rfl
 ·obtain ⟨a,_,_,_,rfl,_⟩:=r;rfl
theorem yj {P:Pg}{x v:V}{a:Nat}(e:ij P σ x a v=some σ'):∃ k C fs,x = .obj k∧σ[k]? = some (.inst C fs)∧P.cs.contains C=true∧P.ats.contains a=true∧zQ v=true∧((co fs a).isSome||decide (fs.length<100))=true∧σ.set k (.inst C (gv fs a v))=σ':=by
 obtain ⟨k,rfl⟩:∃ k,x = .obj k:=by cases x<;>first | exact ⟨_,rfl⟩ | injection e
 unfold ij at e
 dsimp only at e
 cases q:σ[k]? with
 | none=>rw [q] at e;injection e
 | some o =>
  rw [q] at e
  cases o with
  | inst C fs =>
   dsimp only at e
   split at e
   ·rename_i q2
    obtain ⟨⟨q1,q3⟩,q4⟩:=ew q2
    obtain ⟨q1,q2⟩:=bn q1
    exact ⟨k,C,fs,rfl,q,q1,q2,q3,q4,aaa e⟩
   ·injection e
theorem yk {x v:V}{a:Nat}{ux uv:Value}{Q:Unit→Shared→Prop}(B:bD G prog w N h₀ K ga ba n) (R:Rel N w h₀ σ φ s.heap) (e:ij G.P σ x a v=some σ') (rx:Rep w φ s.heap x ux) (rv:Rep w φ s.heap v uv)
 (h:∀ h' tk,bS φ [] s.heap h'→Rel N w h₀ σ' φ h'→Q () { s with heap:=h',toks:=tk}):wpAny (model prog w) A (setAttr ux (N.an a) uv) Q E s:=by
 obtain ⟨k,C,fs,rfl,hk,q1,q2,q3,q4,rfl⟩:=yj e
 obtain ⟨p,hp,rfl⟩:∃ p,φ.objs[k]? = some p∧ux = .ref p.1:=by rw [hS] at rx;exact rx
 have len:(gv fs a v).length≤100:=by
  rcases (Bool.or_eq_true _ _).mp q4 with q | q
  ·rw [zE _ _ _ q];exact (R.obs k _ p hk hp).1
  ·exact aaf (tQ _ _ _) (of_decide_eq_true q)
 exact DN (B.X.keeps R.base) (B.pc C (aak.mp q1)) (aak.mp q2) R hk hp len rv (ww q3 rv) fun h' tk k=>h h' tk k.keep
theorem Cm {x y:X}{a:Nat}(B:bD G prog w N h₀ K ga ba n) (hx:(ay G prog w N h₀ ga ba n) x) (hy:(ay G prog w N h₀ ga ba n) y):(dM G prog w N h₀ ga ba n m) (.setA x a y):=fun c env t' ρ ρ' σ σ' o φ s A E Q ok P tp e h=>by
 refine eC (m:=fun z=>wpAny _ A (exec z env) Q E s) ok fun ts v pos k1=>cw (m:=fun z=>wpAny _ A (exec (.Assign z v pos) env) Q E s) k1 fun t k1=>bV (m:=fun z=>wpAny _ A (exec (.Assign [z] v pos) env) Q E s) k1 fun oe nm p okk=>aI okk fun o1 ox oy=>aq o1 fun onc o1=>eqE (m:=fun z=>wpAny _ A (exec (.Assign [.Attribute oe z p] v pos) env) Q E s) o1 ?_
 obtain ⟨⟨v1,σ1⟩,e1,e⟩:=bind_some e;obtain ⟨⟨v2,σ2⟩,e2,e⟩:=bind_some e;refine k6 e h fun σ3 e3 h=>?_
 dsimp only at e3
 refine plainObj_wpAny_Assign_Attribute (nq (α:=Unit) hy hx oy ox P e1 e2 fun φ1 h1 t1 u1 u2 S1 R1 r1 r2=>?_) (il onc)
 rw [P.cx.P,B.an]
 refine yk (s:={ s with heap:=h1,toks:=t1}) B R1 e3 r2 r1 fun h' tk K R'=>?_
 have S:Stp false φ s.heap φ1 h':=⟨S1.grow,S1.keep.trans0 S1.grow K,fun z=>by injection z⟩
 exact h φ1 h' tk (.flow .next) (.of S) R' (S.fra P.F) rfl
theorem yl (op:Aop) {a b r:V}{ua ub:Value}{Q:Value→Shared→Prop}(e:op.run a b=some r) (ra:Rep w φ s.heap a ua) (rb:Rep w φ s.heap b ub) (h:bh w φ s r Q):wpAny (model prog w) A (inplaceOp op.py ua ub) Q E s:=by
 obtain ⟨x,y,rfl,rfl,e⟩:=eZ e
 obtain rfl:=aaa e
 rw [cW] at ra rb;obtain ⟨t,rfl⟩:=ra;obtain ⟨t',rfl⟩:=rb
 cases op
 ·exact PySem.P.iadd_int (h.tok (by rw [cW];exact ⟨_,rfl⟩))
 ·exact PySem.P.isub_int (h.tok (by rw [cW];exact ⟨_,rfl⟩))
theorem Cn {x y:X}{a:Nat}{op:Aop}(B:bD G prog w N h₀ K ga ba n) (hx:(ay G prog w N h₀ ga ba n) x) (hy:(ay G prog w N h₀ ga ba n) y):(dM G prog w N h₀ ga ba n m) (.augA x a op y):=fun c env t' ρ ρ' σ σ' o φ s A E Q ok P tp e h=>by
 refine rS (m:=fun z=>wpAny _ A (exec z env) Q E s) ok fun t op' v pos k1=>bV (m:=fun z=>wpAny _ A (exec (.AugAssign z op' v pos) env) Q E s) k1 fun oe nm p okk=>aI okk fun o1 ox oy=>aq o1 fun o0 o1=>eqE (m:=fun z=>wpAny _ A (exec (.AugAssign (.Attribute oe z p) op' v pos) env) Q E s) o1 (eqE (m:=fun z=>wpAny _ A (exec (.AugAssign (.Attribute oe _ p) z v pos) env) Q E s) o0 ?_)
 obtain ⟨⟨v1,σ1⟩,e1,e⟩:=bind_some e;obtain ⟨old,e2,e⟩:=bind_some e;obtain ⟨⟨v2,σ2⟩,e3,e⟩:=bind_some e;obtain ⟨v,e4,e⟩:=bind_some e;refine k6 e h fun σ3 e5 h=>?_
 dsimp only at e2 e3 e4 e5
 refine wpAny_AugAssign_AttributeAny (hx _ _ _ _ _ _ _ _ _ _ _ _ ox P e1 fun φ1 h1 t1 u1 S1 R1 r1=>?_)
 rw [P.cx.P,B.an]
 refine uX (s:={ s with heap:=h1,toks:=t1}) B R1 e2 r1 fun u0 h2 t2 x2 r0=>?_
 have S2:Stp (aK x) φ s.heap φ1 h2:=⟨S1.grow,S1.keep.trans0 S1.grow x2.keep,fun z=>let ⟨a,b⟩:=S1.pu z;⟨a,b.trans x2⟩⟩
 refine hy _ _ _ _ _ _ _ _ _ _ _ _ oy (P.step S2 (R1.ext x2)) e3 fun φ3 h3 t3 u3 S3 R3 r3=>?_
 have S:=S2.trans (R1.ext x2) S3
 refine yl (s:={ s with heap:=h3,toks:=t3}) op e4 (S3.rep r0) r3 fun u4 h4 t4 x4 r4=>?_
 refine yk (s:={ s with heap:=h4,toks:=t4}) B (R3.ext x4) e5 ((S3.rep (r1.ext x2)).ext x4) r4 fun h' tk K R'=>?_
 have S':Stp false φ s.heap φ3 h':=⟨S.grow,(S.keep.trans0 S.grow x4.keep).trans0 S.grow K,fun z=>by injection z⟩
 exact h φ3 h' tk (.flow .next) (.of S') R' (S'.fra P.F) rfl
theorem Eg {i:Nat}{y:X}{op:Aop}(hy:(ay G prog w N h₀ ga ba n) y):(dM G prog w N h₀ ga ba n m) (.aug i op y):=fun c env t' ρ ρ' σ σ' o φ s A E Q ok P tp e h=>by
 refine rS (m:=fun z=>wpAny _ A (exec z env) Q E s) ok fun t op' v pos k1=>bu (m:=fun z=>wpAny _ A (exec (.AugAssign z op' v pos) env) Q E s) k1 fun nm p okk=>aI okk fun o0 ov oy=>eqE (m:=fun z=>wpAny _ A (exec (.AugAssign (.Name nm p) z v pos) env) Q E s) o0 ?_
 refine bq e fun old q e=>aC e fun v2 σ2 e3 e=>k6 e h fun v e4 h=>?_
 have ov':=bn ov
 have hq:ρ[i]? = some (some old):=by
  cases z:ρ[i]? with
  | none=>rw [z] at q;injection q
  | some x=>rw [z] at q;exact congrArg some q
 refine wpAny_AugAssign_Name (P.F.load hq (eq_of_beq ov'.1) (P.cx.sc▸ov'.2) fun u0 r0=>?_)
 refine hy _ _ _ _ _ _ _ _ _ _ _ _ oy P e3 fun φ3 h3 t3 u3 S3 R3 r3=>?_
 refine yl (s:={ s with heap:=h3,toks:=t3}) op e4 (S3.rep r0) r3 fun u4 h4 t4 x4 r4=>?_
 exact nA (s:=s) (tk:=t4) P ov ((StS.of S3).ext x4) (R3.ext x4) ((S3.fra P.F).ext x4) r4 fun h' tk S' R' F' zz=>h φ3 h' tk (.flow .next) S' R' F' rfl
theorem jD {cond:Rho→St→Option (Bool×St)}{body:Rho→St→Res}{k:Nat} : iB cond body (k+1) ρ σ=(cond ρ σ).bind fun p=>if p.1 then (body ρ p.2).bind fun r=>kW r (iB cond body k r.2.1 r.2.2)
 else some (.next,ρ,p.2):=rfl
theorem qc {pu:Bool}{o3:Out}{ρ3:Rho}{σ3:St}{φ3:Phi}{h3:Heap}{t3:Tok}{f:Fl}{k:Res}{Q:Flow→Shared→Prop}{EE:Value→Shared→Prop}{NX:Flow→Shared→Prop}
 (h:dY G N w h₀ pu o ρ' σ' env vars φ s Q E) (tp:Top A env) (fr:bw h₀ A φ s.heap) (F0:Fra w h₀ φ env vars ρ s.heap) (S13:StS pu (own env) φ s.heap φ3 h3) (R3:Rel N w h₀ σ3 φ3 h3) (F3:Fra w h₀ φ3 env vars ρ3 h3) (fl:i8 G.P w h₀ env pu s.heap φ3 h3 o3 f)
 (e:kW (o3,ρ3,σ3) k=some (o,ρ',σ'))
 (nx:∀ f s1,f = .next∨f = .cont→s1 = { s with heap:=h3,toks:=t3}→k=some (o,ρ',σ')→NX f s1) (nb:∀ s1,Q .next s1→NX .brk s1) (nr:∀ u s1,Q (.ret u) s1→NX (.ret u) s1)
 (ne:∀ x s1,notedBy (model prog w) A env (fun x s'=>cameBackBy (model prog w) A env E x s') x s1→EE x s1):Ea NX EE f { s with heap:=h3,toks:=t3}:=by
 cases o3 with
 | next=>cases fl;exact nx _ _ (.inl rfl) rfl e
 | cont=>cases fl;exact nx _ _ (.inr rfl) rfl e
 | brk=>cases fl;(injection e with hE;injection hE with hA hE;injection hE with hB hC;subst hA;subst hB;subst hC);exact nb _ (h φ3 h3 t3 (.flow .next) S13 R3 F3 rfl)
 | ret v=>(injection e with hE;injection hE with hA hE;injection hE with hB hC;subst hA;subst hB;subst hC);have z:=h φ3 h3 t3 f S13 R3 F3 fl;obtain ⟨u,rfl,r⟩:=fl;exact nr u _ z
 | exc j=>(injection e with hE;injection hE with hA hE;injection hE with hB hC;subst hA;subst hB;subst hC);obtain ⟨x,rfl,z⟩:=h.thru (prog:=prog) (tk:=t3) tp S13 R3 F3 fr F0 fl;exact ne _ _ z
inductive zV (G:Sg) (N:aH) (w:World) (h₀:Heap) (m:Nat) (env:Env) (vars:List Str) (x:X) (b:List S) (s:Shared) (φ:Phi) (o:Out) (ρ':Rho) (σ':St) (k:Nat) (s':Shared):Prop where
 | mk (φ1:Phi) (h1:Heap) (t1:Tok) (ρ1:Rho) (σ1:St) (e:s' = { s with heap:=h1,toks:=t1}) (S1:StS (eK (.whl x b)) (own env) φ s.heap φ1 h1) (R1:Rel N w h₀ σ1 φ1 h1) (F1:Fra w h₀ φ1 env vars ρ1 h1)
  (l:iB (fun ρ σ=>(ev G ρ σ x).bind fun p=>(ck p.1).map (·,p.2)) (fun ρ σ=>exB G m b ρ σ) k ρ1 σ1=some (o,ρ',σ'))
theorem zW {x:X}{b:List S}(hx:(dL G prog w N h₀ ga ba n) x) (hb:(ik G prog w N h₀ ga ba n m) b) {te:Expr}{bs:List Stmt}{Q:Flow→Shared→Prop}(o1:okX c x te=true) (o2:okB c b bs=true) (P:Pre G N w h₀ ga ba n c env A ρ σ φ s) (tp:Top A env) (h:dY G N w h₀ (eK (.whl x b)) o ρ' σ' env c.vars φ s Q E)
 {k:Nat}{s':Shared}(I:zV G N w h₀ m env c.vars x b s φ o ρ' σ' k s') {EE:Value→Shared→Prop}{NX:Flow→Shared→Prop}{BB:Bool→Shared→Prop}
 (bt:∀ s1,wpAny (model prog w) A (execs bs env) NX EE s1→BB true s1) (nx:∀ f s1,f = .next∨f = .cont→(∃ k',k'<k∧zV G N w h₀ m env c.vars x b s φ o ρ' σ' k' s1)→NX f s1) (nb:∀ s1,Q .next s1→NX .brk s1) (nr:∀ u s1,Q (.ret u) s1→NX (.ret u) s1)
 (ne:∀ x s1,notedBy (model prog w) A env (fun x s'=>cameBackBy (model prog w) A env E x s') x s1→EE x s1) (bf:∀ s1,Q .next s1→BB false s1) :
 wpAny (model prog w) A (isTrue te env (eval te env)) BB EE s':=by
 have le:eK (.whl x b)=true→aK x=true∧pureB b=true:=fun z=>bn z
 obtain ⟨φ1,h1,t1,ρ1,σ1,rfl,S1,R1,F1,e⟩:=I
 cases k with
 | zero=>injection e
 | succ k =>
  rw [jD] at e
  refine aC e fun t σ2 e1 e=>aC e1 fun v σ2' e2 e1=>cF e1 fun t' e3 e1=>?_
  cases e1
  have P1:Pre G N w h₀ ga ba n c env A ρ1 σ1 φ1 { s with heap:=h1,toks:=t1}:=P.stepS S1 R1 F1
  refine hx _ _ _ _ _ _ _ _ _ _ _ _ _ o1 P1 e2 e3 fun φ2 h2 t2 S2 R2=>?_
  have S12:StS (eK (.whl x b)) (own env) φ s.heap φ2 h2:=(S1.trans R1 (S2.fra F1).notm (StS.of S2)).weak fun z=>by rw [z,(le z).1];rfl
  cases t with
  | false =>
   (injection e with hE;injection hE with hA hE;injection hE with hB hC;subst hA;subst hB;subst hC)
   exact bf _ (h φ2 h2 t2 (.flow .next) S12 R2 (S2.fra F1) rfl)
  | true =>
   refine qF e fun o3 ρ3 σ3 e4 e=>bt _ (hb _ _ _ _ _ _ _ _ _ _ _ _ _ o2 (P1.step S2 R2) tp e4 fun φ3 h3 t3 f S3 R3 F3 fl=>?_)
   have S13:StS (eK (.whl x b)) (own env) φ s.heap φ3 h3:=(S12.trans R2 F3.notm S3).weak fun z=>by rw [z,(le z).2];rfl
   exact qc (s:=s) h tp P.fr P.F S13 R3 F3 (fl.early (fun zz e=>S12.some R2 (S2.fra F1) e) fun z=>(le z).2) e (fun f s1 hf hs e=>nx f s1 hf ⟨k,Nat.lt_succ_self k,φ3,h3,t3,ρ3,σ3,hs,S13,R3,F3,e⟩) nb nr ne
theorem Eh {x:X}{b:List S}(hx:(dL G prog w N h₀ ga ba n) x) (hb:(ik G prog w N h₀ ga ba n m) b):(dM G prog w N h₀ ga ba n m) (.whl x b):=fun c env t' ρ ρ' σ σ' o φ s A E Q ok P tp e h=>by
 refine wp (m:=fun z=>wpAny _ A (exec z env) Q E s) ok fun te bs el pos k1=>aq k1 fun k2 k3=>cO (m:=fun z=>wpAny _ A (exec (.While te bs z pos) env) Q E s) k2 (aq k3 fun o1 o2=>?_)
 exact wpAny_While (codeAny_whileLoop (zV G N w h₀ m env c.vars x b s φ o ρ' σ') (fun k s' I=>zW hx hb o1 o2 P tp h I (fun zz z=>z) (fun f zz hf z=>by rcases hf with rfl | rfl<;>exact z) (fun zz z=>z) (fun zz zz z=>z) (fun zz zz z=>z) (fun zz z=>wpAny_execs_nil z)) m ⟨φ,s.heap,s.toks,ρ,σ,rfl,.refl _,P.R,P.F,e⟩)
end
section
variable {N:aH}{prog:Program}{w:World}{h₀ h h' h₁ h₂:Heap}{σ σ' σ₁ σ₂:St}{φ φ' φ₁ φ₂:Phi}{env:Env}{vars:List Str}{ρ ρ' ρ₁ ρ₂:Rho}{A:Around}{E:Value→Shared→Prop}{s:Shared}{G:Sg}{K:Frag}{ga ba:Addr}{n m:Nat}{c:Cx}{o:Out}
inductive zX (G:Sg) (N:aH) (w:World) (h₀:Heap) (m:Nat) (env:Env) (vars:List Str) (j:Nat) (b:List S) (s:Shared) (φ:Phi) (its:List V) (pu:Bool) (St':Nat→Heap→Prop) (I:Addr) (o:Out) (ρ':Rho) (σ':St) (k:Nat) (s':Shared):Prop where
 | mk (φ1:Phi) (h1:Heap) (t1:Tok) (ρ1:Rho) (σ1:St) (i:Nat) (e:s' = { s with heap:=h1,toks:=t1}) (ek:k=its.length+1 - i) (hi:i≤its.length) (st:St' i h1) (S1:StS pu (own env) φ s.heap φ1 h1) (R1:Rel N w h₀ σ1 φ1 h1) (F1:Fra w h₀ φ1 env vars ρ1 h1) (Im:I∉au φ1)
  (l:kX (fun v ρ=>some (ρ.set j (some v))) (fun ρ σ=>exB G m b ρ σ) (its.drop i) ρ1 σ1=some (o,ρ',σ'))
theorem nE {b:List S}{its:List V}{I:Addr}{fp:List Addr}{Pp:Nat→Value→Prop}{St':Nat→Heap→Prop}{pu:Bool}{φ1:Phi}{h1 h2:Heap}{ρ1:Rho}{σ1:St}{i:Nat}(P:Pre G N w h₀ ga ba n c env A ρ σ φ s) (Sr:Src prog w A φ s.heap I its h₂ fp Pp St')
 (st1:St' i h1) (S1:StS pu (own env) φ s.heap φ1 h1) (R1:Rel N w h₀ σ1 φ1 h1) (F1:Fra w h₀ φ1 env c.vars ρ1 h1) (Im1:I∉au φ1) (hk:∀ b o,b∉[I]→h1.get? b=some o→h2.get? b=some o):StS pu (own env) φ s.heap φ1 h2∧Rel N w h₀ σ1 φ1 h2∧Fra w h₀ φ1 env c.vars ρ1 h2:=by
 have Iown:I∉own env:=fun q=>by obtain ⟨o,e⟩:=P.F.own_some I q;rw [Sr.new] at e;injection e
 have I0:h₀.get? I=none:=by
  cases e:h₀.get? I with
  | none=>rfl
  | some o=>have:=P.R.base _ _ e;rw [Sr.new] at this;injection this
 have neI:∀ {b o},s.heap.get? b=some o→b∉[I]:=fun e q=>by rw [aai.mp q,Sr.new] at e;injection e
 obtain ⟨oI,eI,looseI,_⟩:=Sr.stays i h1 st1
 have OI:Own h1 [I]:=fun b hb=>by rw [aai.mp hb];exact ⟨oI,eI,looseI⟩
 have K:f6 [I] h1 h2:=fun b o e nb=>hk b o nb e
 refine ⟨⟨S1.grow,fun b o e n1 n2=>let ⟨o',e',a⟩:=S1.keep b o e n1 n2;⟨o',hk b o' (neI e) e',a⟩,fun z=>let ⟨a,x⟩:=S1.pu z;⟨a,fun b o e n2=>hk b o (neI e) (x b o e n2)⟩⟩,
  R1.own K OI (fun b hb=>by rw [aai.mp hb];exact I0) fun mm hm=>?_,F1.keep (.refl _ _) K.keep OI fun b hb q=>Iown (aai.mp q▸hb)⟩
 obtain ⟨o,e⟩:=Option.isSome_iff_exists.mp (R1.mut_some mm hm)
 rw [e,hk mm o (fun q=>Im1 (aai.mp q▸hm)) e]
theorem zY {nm:Str}{np:Pos}{bs:List Stmt}{b:List S}{its:List V}{I:Addr}{fp:List Addr}{Pp:Nat→Value→Prop}{St':Nat→Heap→Prop}{j:Nat}{Q:Flow→Shared→Prop}{pu:Bool}
 (P:Pre G N w h₀ ga ba n c env A ρ σ φ s) (tp:Top A env) (hb:(ik G prog w N h₀ ga ba n m) b) (ob:okB c b bs=true) (ov:okV c j nm=true)
 (Sr:Src prog w A φ s.heap I its h₂ fp Pp St') (le:pu=true→pureB b=true) (h:dY G N w h₀ pu o ρ' σ' env c.vars φ s Q E)
 {k:Nat}{s':Shared}(J:zX G N w h₀ m env c.vars j b s φ its pu St' I o ρ' σ' k s') {EE:Value→Shared→Prop}{NX:Flow→Shared→Prop}{QN:Option Value→Shared→Prop}
 (some_:∀ u s1,wpAny (model prog w) A (assign (.Name nm np) env u) (fun zz s3=>wpAny (model prog w) A (execs bs env) NX EE s3) EE s1→QN (some u) s1) (none_:∀ s1,Q .next s1→QN none s1)
 (nx:∀ f s1,f = .next∨f = .cont→(∃ k',k'<k∧zX G N w h₀ m env c.vars j b s φ its pu St' I o ρ' σ' k' s1)→NX f s1) (nb:∀ s1,Q .next s1→NX .brk s1) (nr:∀ u s1,Q (.ret u) s1→NX (.ret u) s1)
 (ne:∀ x s1,notedBy (model prog w) A env (fun x s'=>cameBackBy (model prog w) A env E x s') x s1→EE x s1) :
 wpAny (model prog w) A (pyNext (.ref I)) QN EE s':=by
 obtain ⟨φ1,h1,t1,ρ1,σ1,i,rfl,rfl,hi,st1,S1,R1,F1,Im1,e⟩:=J
 have O₁:=P.F.own_ok
 by_cases hlt:i<its.length
 ·refine Sr.walks.item i _ _ _ hlt st1 fun u h2 t2 hP st2 hk=>some_ _ _ ?_
  obtain ⟨S2,R2,F2⟩:=nE (b:=b) P Sr st1 S1 R1 F1 Im1 hk
  rw [List.drop_eq_getElem_cons hlt] at e
  refine bq e fun ρ2 e1 e'=>qF e' fun o3 ρ3 σ3 e2 e3=>?_
  obtain rfl:=aaa e1
  have rx:=(Sr.item i u _ hP (List.getElem?_eq_getElem hlt)).mono S2.grow S2.keep O₁
  have fpown:∀ b∈fp,b∉own env:=fun b hb=>by
   rcases Sr.fps b hb with rfl | ⟨o,e,_,t⟩
   ·exact fun q=>by obtain ⟨o,e⟩:=P.F.own_some _ q;rw [Sr.new] at e;injection e
   ·exact O₁.ne e t
  refine wpAny_assign_Name (nA (s:=s) (tk:=t2) P ov S2 R2 F2 rx fun h3 t3 S3 R3 F3 K3=>?_)
  have st3:St' (i+1) h3:=Sr.walks.frame _ _ _ st2 fun b hb o e=>K3 b o e (fpown b hb)
  refine hb _ _ _ _ _ _ _ _ _ _ _ _ _ ob (P.stepS S3 R3 F3) tp e2 fun φ4 h4 t4 f S4 R4 F4 fl=>?_
  have S14:StS pu (own env) φ s.heap φ4 h4:=(S3.trans R3 F4.notm S4).weak fun z=>by rw [z,le z];rfl
  refine qc (s:=s) h tp P.fr P.F S14 R4 F4 (fl.early (fun zz e=>S3.some R3 F3 e) le) e3 (fun f s1 hf hs e=>nx f s1 hf ?_) nb nr ne
  obtain ⟨oI,eI,_,ndI⟩:=Sr.stays _ _ st3
  have nm1:∀ b∈fp,b∉au φ1∧∀ o,h3.get? b=some o→¬ dO o:=fun b hb=>by
   rcases Sr.fps b hb with rfl | ⟨o,e,n,t⟩
   ·exact ⟨Im1,fun o e=>by rw [eI] at e;obtain rfl:=aaa e;exact ndI⟩
   ·refine ⟨S1.grow.notmem e n,fun o' e'=>?_⟩
    rw [S3.keep.same e n (fpown b hb) (Own.nd t)] at e'
    obtain rfl:=aaa e';exact Own.nd t
  exact ⟨_,mf hlt,φ4,h4,t4,ρ3,σ3,i+1,hs,rfl,hlt,Sr.walks.frame _ _ _ st3 fun b hb o e=>S4.keep.same e (nm1 b hb).1 (fpown b hb) ((nm1 b hb).2 o e),S14,R4,F4,S4.grow.notmem eI Im1,e⟩
 ·cases Nat.le_antisymm hi (Nat.le_of_not_lt hlt)
  refine Sr.walks.done _ _ _ st1 fun h2 t2 hk=>?_
  obtain ⟨S2,R2,F2⟩:=nE (b:=b) P Sr st1 S1 R1 F1 Im1 hk
  rw [List.drop_of_length_le (Nat.le_refl _)] at e
  (injection e with hE;injection hE with hA hE;injection hE with hB hC;subst hA;subst hB;subst hC)
  exact none_ _ (h φ1 h2 t2 (.flow .next) S2 R2 F2 rfl)
theorem Co {i:Nat}{x:X}{b:List S}(hx:(ay G prog w N h₀ ga ba n) x) (hb:(ik G prog w N h₀ ga ba n m) b):(dM G prog w N h₀ ga ba n m) (.for1 i x b):=fun c env t' ρ ρ' σ σ' o φ s A E Q ok P tp e h=>by
 refine rU (m:=fun z=>wpAny _ A (exec z env) Q E s) ok fun t ie bs el pos k1=>aq k1 fun k2 k1=>cO (m:=fun z=>wpAny _ A (exec (.For t ie bs z pos) env) Q E s) k2 (bu (m:=fun z=>wpAny _ A (exec (.For z ie bs [] pos) env) Q E s) k1 fun nm p okk=>aI okk fun o1 ox ob=>aq o1 fun ov onf=>?_)
 refine aC e fun v1 σ1 e1 e=>?_;refine bq e fun its e2 e4=>?_
 clear e
 dsimp only at e2 e4
 have le:eK (.for1 i x b)=true→aK x=true∧pureB b=true:=fun z=>bn z
 refine wpAny_For (hx _ _ _ _ _ _ _ _ _ _ _ _ ox P e1 fun φ1 h1 t1 u S1 R1 r1=>x7 P.a.1 e2 r1 fun I h₂ fp Pp St' Sr=>?_) (kc onf)
 have P1:=P.step (tk:=t1) S1 R1
 have h1':=h.then (tk:=t1) (.of S1) R1 (S1.fra P.F) (p:=aK x) (q:=eK (.for1 i x b)) fun z=>⟨(le z).1,z⟩
 exact codeAny_forLoop_any (zX G N w h₀ m env c.vars i b { s with heap:=h1,toks:=t1} φ1 its (eK (.for1 i x b)) St' I o ρ' σ')
  (fun k s' J=>zY P1 tp hb ob ov Sr (fun z=>(le z).2) h1' J (fun zz zz z=>wpAny_pure z) (fun zz z=>wpAny_execs_nil z) (fun f zz hf z=>by rcases hf with rfl | rfl<;>exact z) (fun zz z=>z) (fun zz zz z=>z) (fun zz zz z=>z)) (its.length+1)
  ⟨φ1,h₂,t1,ρ,σ1,0,rfl,rfl,Nat.zero_le _,Sr.start,(StS.refl _).ext Sr.ext,P1.R.ext Sr.ext,P1.F.ext Sr.ext,(fun q=>by have:=P1.R.mut_some I q;rw [Sr.new] at this;injection this),e4⟩
theorem ve {k:Nat}{nm:Str}{C:Prop}(B:bD G prog w N h₀ K ga ba n) (cx:Cxt G c env ga ba) (h:zS c k nm=true) (kk:∀ q:Str×Addr,G.P.ex[k]? = some q→q.1=nm→fq env.scope nm=true→C):C :=
 aq h fun a b=>j8 a fun q hq a=>kk q (cx.P▸hq) (eq_of_beq a) (cx.sc▸b)
theorem zZ {k:Nat}(B:bD G prog w N h₀ K ga ba n):(dM G prog w N h₀ ga ba n m) (.raise k):=fun c env t' ρ ρ' σ σ' o φ s A E Q ok P tp e h=>by
 refine wr (m:=fun z=>wpAny _ A (exec z env) Q E s) ok fun x y pos k1=>aq k1 fun k2 k1=>u9 (m:=fun y=>wpAny _ A (exec (.Raise x y pos) env) Q E s) k2 (mh (m:=fun x=>wpAny _ A (exec (.Raise x none pos) env) Q E s) k1 fun x k1=>cq (m:=fun x=>wpAny _ A (exec (.Raise (some x) none pos) env) Q E s) k1 fun nm np es cp k1=>aq k1 fun k2 k1=>cO (m:=fun es=>wpAny _ A (exec (.Raise (some (.Call (.Name nm np) es [] cp)) none pos) env) Q E s) k2 ?_)
 refine ve B P.cx k1 fun q hq hn og=>k6 e h fun zz zz h=>?_
 subst hn
 obtain ⟨gl,xc⟩:=B.ex k q hq
 refine zP P.a.1 (P.fr.top tp) P.cx.ga P.cx.ba P.F.fn og gl xc ⟨P.R,P.F,P.fr,fun b o e zz zz=>⟨o,e,.refl _⟩⟩ fun h' x T th=>h φ h' s.toks (.thr (.ref x)) (T.sts (.refl false) rfl) T.R T.F ⟨q,x,hq,rfl,rfl,th⟩
theorem Ei {k:Nat}{b:List S}(B:bD G prog w N h₀ K ga ba n) (hb:(ik G prog w N h₀ ga ba n m) b):(dM G prog w N h₀ ga ba n m) (.try1 b k):=fun c env t' ρ ρ' σ σ' o φ s A E Q ok P tp e h=>by
 refine zR (m:=fun z=>wpAny _ A (exec z env) Q E s) ok fun bs hs el fb pos k1=>aq k1 fun k1 k2=>aI k1 fun k3 k4 ob=>cO (m:=fun el=>wpAny _ A (exec (.Try bs hs el fb pos) env) Q E s) k3 (cO (m:=fun fb=>wpAny _ A (exec (.Try bs hs [] fb pos) env) Q E s) k4 (rX (m:=fun hs=>wpAny _ A (exec (.Try bs hs [] [] pos) env) Q E s) k2 fun nm np pp hp k2=>?_))
 refine ve B P.cx k2 fun q hq hn og=>cF e fun r e1 e2=>?_
 subst hn
 obtain ⟨gl,xc⟩:=B.ex k q hq
 obtain ⟨o1,ρ1,σ1⟩:=r
 refine wpAny_Try_except (hb _ _ _ _ _ _ _ _ _ _ _ _ _ ob P tp e1 fun φ1 h1 t1 f S1 R1 F1 fl=>?_)
 have S1':StS false (own env) φ s.heap φ1 h1:=S1.weak fun z=>by injection z
 cases o1 with
 | next =>
  cases e2;cases fl
  exact wpAny_execs_nil (h φ1 h1 t1 (.flow .next) S1' R1 F1 rfl)
 | exc j =>
  obtain ⟨r,x,hr,rfl,hp,th⟩:=fl
  refine th.note (s:={ s with heap:=h1,toks:=t1}) tp (S1.still R1 F1 P.fr P.F) fun h2 L hL T2 c2=>Xc.flight (s:={ s with heap:=h2,toks:=t1}) (ln:=none) rfl T2 c2 fun h3 T3 c3=>?_
  refine yi (s:={ s with heap:=h3,toks:=t1}) ⟨L,hL⟩ P.cx.ga P.cx.ba P.F.fn og gl B.X (B.exm j k r q hr hq) T3 c3 (fun hj h4 T4=>?_) fun hj h4 T4 th4=>?_
  ·replace e2:(if j==k then (Out.next,ρ1,σ1) else (Out.exc j,ρ1,σ1))=(o,ρ',σ'):=e2
   rw [if_pos hj] at e2;(injection e2 with hA hB;cases hA;cases hB)
   exact h φ1 h4 t1 (.flow .next) (T4.sts S1' rfl) T4.R T4.F rfl
  ·replace e2:(if j==k then (Out.next,ρ1,σ1) else (Out.exc j,ρ1,σ1))=(o,ρ',σ'):=e2
   rw [hj,if_neg (by decide)] at e2;cases e2
   exact h φ1 h4 t1 (.thr (.ref x)) (T4.sts S1' rfl) T4.R T4.F ⟨r,x,hr,rfl,rfl,th4⟩
 | ret v =>
  (injection e2 with hA hB;cases hA;cases hB)
  have z:=h φ1 h1 t1 f S1' R1 F1 fl
  obtain ⟨u,rfl,r⟩:=fl
  exact z
 | _ =>
  cases e2
  have z:=h φ1 h1 t1 f S1' R1 F1 fl
  cases fl
  exact z
mutual
theorem ym (B:bD G prog w N h₀ K ga ba n) (L:jy G prog w N h₀ K ga ba n):∀ t:S,(dM G prog w N h₀ ga ba n m) t
 | .expr x=>Ch (aL B L x).1
 | .set i x=>Ef (aL B L x).1
 | .setT is rev x=>Ck (aL B L x).1
 | .setL is x=>Cl (aL B L x).1
 | .setA o a x=>Cm B (aL B L o).1 (aL B L x).1
 | .augA o a op x=>Cn B (aL B L o).1 (aL B L x).1
 | .aug i op x=>Eg (aL B L x).1
 | .ite q a b=>Ed (aL B L q).2 (soundB B L a) (soundB B L b)
 | .whl q b=>Eh (aL B L q).2 (soundB B L b)
 | .for1 i x b=>Co (aL B L x).1 (soundB B L b)
 | .ret x=>Ec (aL B L x).1
 | .brk=>Ee
 | .cont=>Ci
 | .asrt x=>Cj (aL B L x).2
 | .raise k=>zZ B
 | .try1 b k=>Ei B (soundB B L b)
theorem soundB (B:bD G prog w N h₀ K ga ba n) (L:jy G prog w N h₀ K ga ba n):∀ ts:List S,(ik G prog w N h₀ ga ba n m) ts
 | []=>Gv
 | t :: r=>Eb (ym B L t) (soundB B L r)
end
end
theorem nF:∀ {ns:List Str}{vs:List Value},ns.Nodup→ns.length=vs.length→∀ n∈ns,((ns.zip vs).lookup n).isSome
 | [],_,_,_,n,h=>absurd h List.not_mem_nil
 | a :: r,[],_,l,n,h=>by simp at l
 | a :: r,v :: vs,nd,l,n,h=>by
  rw [List.zip_cons_cons,List.lookup_cons]
  cases e:n==a with
  | true=>rfl
  | false =>
   rcases List.mem_cons.mp h with q | q
   ·subst q;simp at e
   ·exact nF (List.nodup_cons.mp nd).2 (by simpa using l) n q
theorem jW:∀ {ns:List Str}{vs:List Value}(pre:List (Str×Value)),ns.Nodup→ns.length=vs.length→(∀ n∈ns,pre.lookup n=none)→(ns.filterMap fun n=>((pre++ns.zip vs).lookup n).map (n,·))=ns.zip vs
 | [],_,_,_,_,_=>rfl
 | a :: r,[],_,_,l,_=>by simp at l
 | a :: r,v :: vs,pre,nd,l,hp=>by
  obtain ⟨na,nr⟩:=List.nodup_cons.mp nd
  have hl:(pre++(a,v) :: r.zip vs).lookup a=some v:=by
   have:pre.lookup a=none:=hp a aam
   rw [List.lookup_append,this]
   simp [List.lookup_cons]
  rw [List.zip_cons_cons,List.filterMap_cons,hl]
  show (a,v) :: _=(a,v) :: _
  congr 1
  have ih:=jW (ns:=r) (vs:=vs) (pre++[(a,v)]) nr (by simpa using l) fun n hn=>by
   rw [List.lookup_append,hp n (aag _ hn)]
   have:(n==a)=false:=beq_eq_false_iff_ne.mpr fun e=>na (e▸hn)
   simp [List.lookup_cons,this]
  rw [aap,List.singleton_append] at ih
  exact ih
noncomputable def eD (args:List Arg):Arguments:=⟨[],args,none,[],[],none,[]⟩
theorem wx {fd:FuncData}{args:List Arg}{vals:List Value}(hp:fd.params=eD args) (hd:fd.defaults = .none) (nd:(args.map (·.arg)).Nodup) (hl:vals.length=args.length) :
 bindArgs fd ⟨vals,[]⟩=pure ((args.map (·.arg)).zip vals):=by
 have hlen:(args.map (·.arg)).length=vals.length:=by rw [List.length_map,hl]
 obtain ⟨e1,e2,f,h⟩:∃ (e1 e2:Sem (List (Str×Value))) (f:Str×Value→List (Str×Value)→Sem (ForInStep (List (Str×Value)))),bindArgs fd ⟨vals,[]⟩ =
  if (decide (vals.length>(args.map Arg.arg).length)&&true)=true then e1 else
  if (!(((args.map Arg.arg).take ((args.map Arg.arg).length - (([]:List Value).drop (0 - (args.map Arg.arg).length)).length)).filter fun n=>(((args.map Arg.arg).zip vals).lookup n).isNone).isEmpty)=true then e2 else
  forIn (((args.map Arg.arg).drop ((args.map Arg.arg).length - (([]:List Value).drop (0 - (args.map Arg.arg).length)).length)).zip (([]:List Value).drop (0 - (args.map Arg.arg).length))) ((args.map Arg.arg).zip vals) f >>= fun slots=>pure (((args.map Arg.arg)++[]).filterMap fun n=>(slots.lookup n).map (n,·)):=by
  cases fd;cases hp;cases hd
  exact ⟨_,_,_,rfl⟩
 generalize args.map Arg.arg=ns at *
 have q:(ns.filter fun n=>((ns.zip vals).lookup n).isNone)=[]:=by
  rw [List.filter_eq_nil_iff]
  intro n hn z
  have:=nF nd hlen n hn
  rw [Option.isNone_iff_eq_none.mp z] at this;injection this
 have e3:=jW (ns:=ns) (vs:=vals) [] nd hlen fun zz zz=>rfl
 rw [h,if_neg (by rw [hlen,decide_eq_false (Nat.lt_irrefl _)];exact aaj),List.drop_nil,List.zip_nil_right,List.append_nil,List.length_nil,Nat.sub_zero,List.take_length,q]
 exact congrArg (pure (f:=Sem)) e3
noncomputable def z6 (r:Out×Rho×St):Option (V×St):=match r.1 with
 | .ret v=>some (v,r.2.2)
 | .next=>some (.none,r.2.2)
 | .brk=>none
 | .cont=>none
 | .exc _=>none
noncomputable def im (run:Rho→St→Res) (k nv:Nat):ib:=fun xs σ=>if xs.length=k then (run (xs.map some++List.replicate nv none) σ).bind z6 else none
noncomputable def gw (G:Sg) (m k nv:Nat) (body:List S):ib:=im (exB G m body) k nv
noncomputable def pj (G:Sg) (prog:Program) (w:World) (N:aH) (h₀:Heap) (ga ba:Addr) (n:Nat) (c:Cx) (pu:Bool) (run:Rho→St→Res) (ts':List Stmt):Prop:=∀ (env:Env) (ρ ρ':Rho) (σ σ':St) (o:Out) (φ:Phi) (s:Shared) (A:Around) (E:Value→Shared→Prop) (Q:Flow→Shared→Prop),
 Pre G N w h₀ ga ba n c env A ρ σ φ s→Top A env→run ρ σ=some (o,ρ',σ')→dY G N w h₀ pu o ρ' σ' env c.vars φ s Q E→wpAny (model prog w) A (execs ts' env) Q E s
noncomputable def nG:List Str→Bool
 | []=>true
 | a :: r=>!r.contains a&&nG r
theorem nH:∀ {l:List Str},nG l=true→l.Nodup
 | [],_=>List.nodup_nil
 | a :: r,h=>by
  simp only [nG,Bool.and_eq_true,Bool.not_eq_true'] at h
  refine List.nodup_cons.mpr ⟨fun m=>?_,nH h.2⟩
  rw [aak.mpr m] at h
  exact absurd h.1 (by decide)
noncomputable def wy (args:List Arg) (vars:List Str) (scope:Scope) (nv:Nat):Bool :=
 scope.kind==.function&&!scope.isCoroutine&&!scope.isGenerator&&nG vars&&!vars.contains (".0":Str)&&(scope.names.all fun x=>x.2 != .cell)&&vars.take args.length==args.map (·.arg)&&vars.length==args.length+nv&&((args.map (·.arg)).all fun n=>kP scope n)
noncomputable def z7 (P:Pg) (args:List Arg) (vars:List Str) (scope:Scope) (nv:Nat) (body:List S) (stmts:List Stmt):Bool:=wy args vars scope nv&&okB ⟨scope,vars,P⟩ body stmts
theorem iC {α:Type} : ∀ {l:List (Str×α)}{n:Str}{c:α},(l.map (·.1)).Nodup→(n,c)∈l→l.lookup n=some c
 | (k,v) :: r,n,c,nd,h=>by
  obtain ⟨nk,nr⟩:=List.nodup_cons.mp nd
  rw [List.lookup_cons]
  rcases List.mem_cons.mp h with q | q
  ·(injection q with hA hB;subst hA;subst hB);rw [beq_self_eq_true]
  ·have:(n==k)=false:=beq_eq_false_iff_ne.mpr fun e=>nk (e▸(List.mem_map_of_mem (f:=(·.1)) q:n∈r.map (·.1)))
   rw [this];exact iC nr q
noncomputable def qJ (K:Frag) (f:Addr) (args:List Arg) (body:List Stmt) (scope:Scope):Prop :=
 ∃ (oc:Value) (od an:Option Addr) (osl:Array (Option Value)) (name qual:Str) (kV doc pm cdv ct:Value),K.lookup f=some ⟨oc,od,.func (fnOf name qual (eD args) body scope .none kV doc pm an cdv ct),osl⟩∧codeIn K cdv qual=true
section
variable {N:aH}{prog:Program}{w:World}{h₀:Heap}{G:Sg}{K:Frag}{n:Nat}
theorem z8 {run:Rho→St→Res}{k nv:Nat}{xs:List V}{σ:St}{r:V×St}(e:im run k nv xs σ=some r):xs.length=k∧(run (xs.map some++List.replicate nv none) σ).bind z6=some r:=by
 by_cases q:xs.length=k
 ·exact ⟨q,(if_pos q).symm.trans e⟩
 ·rw [im,if_neg q] at e;injection e
theorem yn (B:bD G prog w N h₀ K mainGlobals builtinsNs n) (hlim:h₀.NoLimit) {f:Addr}{args:List Arg}{vars:List Str}{scope:Scope}{nv:Nat}{stmts:List Stmt}{run:Rho→St→Res}{pu:Bool}
 (FO:qJ K f args stmts scope) (ok:wy args vars scope nv=true) (hb:pj G prog w N h₀ mainGlobals builtinsNs n ⟨scope,vars,G.P⟩ pu run stmts) {A:Around}{s:Shared}{σ σ':St}{φ:Phi}{xs:List V}{vs:List Value}{r:V}{Q:Result→Shared→Prop}
 (a:AOk (n+1) A) (fr:bw h₀ A φ s.heap) (R:Rel N w h₀ σ φ s.heap) (rs:Reps w φ s.heap xs vs) (e:im run args.length nv xs σ=some (r,σ')) (h:Aft N w h₀ pu σ' r φ s (fun u=>Q (.ok (.ret u)))):codeAny (model prog w) A (.call (.ref f) ⟨vs,[]⟩) Q s:=by
 obtain ⟨oc,od,an,osl,name,qual,kV,doc,pm,cdv,ct,hK,hcode⟩:=FO
 refine aq ok fun ok hal=>aI ok fun ok htk hvl=>aI ok fun ok hdot hcl=>aI ok fun ok hgen hnv=>aq ok fun hk hco=>?_
 have hk:=eq_of_beq hk;have htk:=eq_of_beq htk;have hco:=bE hco;have hgen:=bE hgen;have hdot:=bE hdot
 have dot:(".0":Str)∉vars:=fun q=>by rw [aak.mpr q] at hdot;injection hdot
 have nv':=nH hnv
 rw [aab] at hal
 obtain ⟨hxl,e⟩:=z8 e
 refine qF e fun o ρ' σ1 e1 e=>?_
 have X:K.In s.heap:=B.X.keeps R.base
 have hlen:vs.length=args.length:=by rw [rs.len];exact hxl
 have hlen':(args.map (·.arg)).length=vs.length:=by rw [List.length_map,hlen]
 have ndArgs:(args.map (·.arg)).Nodup:=htk▸nv'.sublist (List.take_sublist _ _)
 have zipNames:((args.map (·.arg)).zip vs).map (·.1)=args.map (·.arg):=List.map_fst_zip (Nat.le_of_eq hlen')
 have hroom:A.depth<recursionLimit:=by have:=a.2.1;have:recursionLimit=1000:=rfl;lia
 refine codeAny_call_plain (fd:=fnOf name qual (eD args) stmts scope .none kV doc pm an cdv ct) (body:=stmts) (binds:=(args.map (·.arg)).zip vs) hroom (X _ _ hK) rfl (hlim.keeps R.base) (codeRec_of X hcode) rfl (wx rfl rfl ndArgs hlen) (fun x hx=>bne_iff_ne.mp (aab.mp hcl x hx)) (fun x hx=>?_) (fun h₁ hns x₁=>?_) hco hgen hk
 ·exact eq_of_beq (hal _ (by rw [← zipNames];exact List.mem_map_of_mem hx))
 ·generalize henv:callEnv (fnOf name qual (eD args) stmts scope .none kV doc pm an cdv ct) s.heap.objs.size f=env at hns ⊢
  have hsc:env.scope=scope:=by subst henv;rfl
  have hloc:env.locals=s.heap.objs.size:=by subst henv;rfl
  have hga:env.globals=mainGlobals:=by subst henv;rfl
  have hba:env.builtins=builtinsNs:=by subst henv;rfl
  have hfn:env.frame=some env.locals:=by subst henv;rfl
  rw [← hloc] at hns
  clear henv
  have x₁:Ext s.heap h₁:=x₁
  have ownNone:∀ b∈own env,s.heap.get? b=none:=fun b hb=>by rw [aai.mp hb,hloc];exact dj _
  have bound:∀ (i:Nat) (v:V) (nm:Str),(xs.map some++List.replicate nv none)[i]? = some (some v)→vars[i]? = some nm→∃ u,((args.map (·.arg)).zip vs).reverse.lookup nm=some u∧Rep w φ h₁ v u:=fun i v nm hi hv=>by
   have hi':xs[i]? = some v:=by
    rcases Nat.lt_or_ge i xs.length with lt | ge
    ·rw [List.getElem?_append_left (by rw [List.length_map];exact lt),List.getElem?_map] at hi
     obtain ⟨y,hy,e⟩:=map_some hi
     obtain rfl:=aaa e;exact hy
    ·rw [List.getElem?_append_right (by rw [List.length_map];exact ge),List.getElem?_replicate] at hi
     split at hi<;>cases hi
   obtain ⟨u,hu,r⟩:=rs.get hi'
   refine ⟨u,?_,r.ext x₁⟩
   have hlt:i<args.length:=by
    rcases Nat.lt_or_ge i xs.length with lt | ge
    ·rw [← hxl];exact lt
    ·rw [List.getElem?_eq_none ge] at hi';injection hi'
   have hn:(args.map (·.arg))[i]? = some nm:=by
    rw [← htk,List.getElem?_take,if_pos hlt];exact hv
   have:((args.map (·.arg)).zip vs)[i]? = some (nm,u):=by
    rw [List.getElem?_zip_eq_some];exact ⟨hn,hu⟩
   exact iC (by rw [List.map_reverse,zipNames];exact (List.reverse_perm _).nodup_iff.mpr ndArgs) (List.mem_reverse.mpr (aah this))
  have F:Fra w h₀ φ env vars (xs.map some++List.replicate nv none) h₁ :=
   { fn:=hsc▸hk
     ns:=⟨_,hns,fun i v nm hi hv zz=>bound i v nm hi hv⟩
     fresh:=fun b hb=>by
      cases q:h₀.get? b with
      | none=>rfl
      | some o=>have:=R.base _ _ q;rw [ownNone b hb] at this;injection this
     notm:=fun b hb m=>by have:=R.mut_some b m;rw [ownNone b hb] at this;cases this}
  have frOk:bw h₀ (A.deeper env) φ h₁:=by
   obtain ⟨fs,f1,f2⟩:=fr.ext x₁
   refine ⟨env :: fs,Around.frames_deeper f1,fun e m=>?_⟩
   rcases List.mem_cons.mp m with rfl | m
   ·obtain ⟨_,⟨o,es,n,e',d,_⟩,_⟩:=F.ns
    exact ⟨by rw [F.fn];exact (fun q=>(by injection q)),_,o,hfn,F.fresh _ aam,F.notm _ aam,e',es,n,d⟩
   ·exact f2 e m
  have tp:Top (A.deeper env) env:=by
   obtain ⟨fs,f1,_⟩:=fr
   exact ⟨fs,Around.frames_deeper f1⟩
  have P:Pre G N w h₀ mainGlobals builtinsNs n ⟨scope,vars,G.P⟩ env (A.deeper env) (xs.map some++List.replicate nv none) σ φ { s with heap:=h₁,toks:=s.toks+((args.map (·.arg)).zip vs).length}:=⟨⟨rfl,hsc,hga,hba,nv',dot⟩,a.deeper,frOk,R.ext x₁,F⟩
  refine hb _ _ _ _ _ _ _ _ _ _ _ P tp e1 fun φ2 h2 t2 fl S2 R2 F2 ff=>?_
  have keepOwn:∀ b o,s.heap.get? b=some o→b∉own env:=fun b o e q=>by rw [ownNone b q] at e;injection e
  have S:Stp pu φ s.heap φ2 h2:=by
   obtain ⟨ψ,β,g1,g2,g3,g4⟩:=S2.grow
   have none_of:∀ b,h₁.get? b=none→s.heap.get? b=none:=fun b q=>by
    cases z:s.heap.get? b with
    | none=>rfl
    | some o=>rw [x₁ _ _ z] at q;injection q
   refine ⟨⟨ψ,β,g1,g2,fun p hp=>none_of _ (g3 p hp),fun b hb=>none_of _ (g4 b hb)⟩,fun b o e nm zz=>S2.keep _ _ (x₁ _ _ e) nm (keepOwn b o e),fun z=>?_⟩
   obtain ⟨p1,p2⟩:=S2.pu z
   exact ⟨p1,fun b o e=>p2 _ _ (x₁ _ _ e) (keepOwn b o e)⟩
  cases o with
  | next=>cases ff;(injection e with hE;injection hE with hA hB;subst hA;subst hB);exact h φ2 h2 t2 _ S R2 (by rw [eY])
  | ret v=>obtain ⟨u,rfl,r⟩:=ff;(injection e with hE;injection hE with hA hB;subst hA;subst hB);exact h φ2 h2 t2 _ S R2 r
  | _=>injection e
theorem Bs {G:Sg}{prog:Program}{w:World}{N:aH}{h₀:Heap}{K:Frag}{ga ba:Addr}{n m:Nat}{c:Cx}{body:List S}{stmts:List Stmt}(B:bD G prog w N h₀ K ga ba n) (L:jy G prog w N h₀ K ga ba n) (ok:okB c body stmts=true):pj G prog w N h₀ ga ba n c (pureB body) (exB G m body) stmts :=
 fun zz zz zz zz zz zz zz zz zz zz zz P tp e h=>soundB B L body _ _ _ _ _ _ _ _ _ _ _ _ _ ok P tp e h
theorem Gw (B:bD G prog w N h₀ K mainGlobals builtinsNs n) (L:jy G prog w N h₀ K mainGlobals builtinsNs n) (hlim:h₀.NoLimit) {f:Addr}{args:List Arg}{vars:List Str}{scope:Scope}{nv m:Nat}{body:List S}{stmts:List Stmt}
 (FO:qJ K f args stmts scope) (ok:z7 G.P args vars scope nv body stmts=true):dU prog w N h₀ (n+1) (.ref f) (gw G m args.length nv body):=fun A s σ σ' φ xs vs r Q a fr R rs e h =>
 yn B hlim FO (bn ok).1 (Bs B L (bn ok).2) a fr R rs e fun φ' h' tk u S=>h φ' h' tk u (S.of fun z=>by injection z)
theorem r5 (B:bD G prog w N h₀ K mainGlobals builtinsNs n) (hlim:h₀.NoLimit) {f:Addr}{args:List Arg}{vars:List Str}{scope:Scope}{nv:Nat}{stmts:List Stmt}{run:Rho→St→Res}
 (FO:qJ K f args stmts scope) (ok:wy args vars scope nv=true) (hb:pj G prog w N h₀ mainGlobals builtinsNs n ⟨scope,vars,G.P⟩ true run stmts) {M:List V→Option V}(hM:∀ xs r σ,M xs=some r→im run args.length nv xs σ=some (r,σ)):cZ prog w N h₀ (n+1) (.ref f) M:=fun A s σ φ xs vs r Q a fr R rs e h =>
 yn B hlim FO ok hb a fr R rs (hM _ _ σ e) h
end
section
variable {N:aH}{prog:Program}{w:World}{h₀:Heap}{G:Sg}{K:Frag}{ga ba:Addr}{n:Nat}
theorem Aa {k:Nat}{A:Around}{C:Addr}(a:AOk n A) (l:k+1≤n):AOk k (A.under (.builtin "type.__call__" ⟨.ref C :: [],[]⟩)):=by
 have h1:(A.under (.builtin "type.__call__" ⟨.ref C :: [],[]⟩)).depth=A.depth+1:=rfl
 have h2:(A.under (.builtin "type.__call__" ⟨.ref C :: [],[]⟩)).units=A.units+1:=rfl
 refine ⟨a.1,?_,?_⟩
 ·have:=a.2.1
  rw [h1];lia
 ·have:=a.2.2
  rw [h2];lia
theorem Ej (B:bD G prog w N h₀ K ga ba n):we prog w G N h₀ K ga ba n:=fun A E s σ σ' φ k v q Q a fr R hq e h=>by
 obtain ⟨_,fI,hm,_,hi,hf,k',hk',hF⟩:=B.cl k q hq
 unfold zG at e
 rw [hq] at e
 simp only [Option.bind_some] at e
 obtain ⟨⟨u,σ2⟩,e1,e⟩:=bind_some e
 split at e<;>cases e
 rename_i hu
 dsimp only at hu;subst hu
 obtain ⟨hh,g,d,t,os⟩:=s
 have X:K.In hh:=B.X.keeps R.base
 refine wpAny_call (make_core (makes_of X hm) (looks_findIn X hi) (fun self=>bind_fn X self hf) (.inl rfl) ?_)
 have x1:Ext hh ((hh.push emptyDict).push (instObj q.2.1 hh.objs.size)):=(Ext.push _ _).trans (Ext.push _ _)
 have gx:((hh.push emptyDict).push (instObj q.2.1 hh.objs.size)).get? (hh.objs.size+1)=some (instObj q.2.1 hh.objs.size):=by
  have:=Heap.get?_push_size (hh.push emptyDict) (o:=instObj q.2.1 hh.objs.size) rfl
  rw [Heap.size_push] at this;exact this
 have gd:((hh.push emptyDict).push (instObj q.2.1 hh.objs.size)).get? hh.objs.size=some (dictOf [] 0):=Heap.get?_push_of_some _ (Heap.get?_push_size _ rfl)
 generalize (hh.push emptyDict).push (instObj q.2.1 hh.objs.size)=h1 at x1 gx gd ⊢
 have no:hh.get? hh.objs.size=none:=dj _
 have Gr:bM φ hh ⟨φ.objs++[(hh.objs.size+1,hh.objs.size)],φ.bad⟩:=⟨[(hh.objs.size+1,hh.objs.size)],[],rfl,(List.append_nil _).symm,fun p hp=>by rw [aai.mp hp];exact no,fun zz m=>nomatch m⟩
 have nm:hh.objs.size∉au φ:=fun m=>by have:=R.mut_some _ m;rw [no] at this;injection this
 have R1:Rel N w h₀ (σ++[.inst q.2.1 []]) ⟨φ.objs++[(hh.objs.size+1,hh.objs.size)],φ.bad⟩ h1 :=
  { base:=R.base.trans x1
    len:=by simp [R.len]
    apart:=fun b m=>by
     rcases Gr.back m with m | m
     ·exact R.apart b m
     ·cases z:h₀.get? b with
      | none=>rfl
      | some o=>rw [R.base _ _ z] at m;injection m
    nodup:=by
     rw [List.map_append,List.nodup_append]
     refine ⟨R.nodup,by simp,fun y hy z hz=>?_⟩
     rw [aai.mp hz]
     rintro rfl
     exact nm (List.mem_append_left _ hy)
    bads:=fun b hb=>by
     obtain ⟨o,e⟩:=Option.isSome_iff_exists.mp (R.bads b hb)
     rw [x1 _ _ e];rfl
    obs:=fun j ob p hj hp=>by
     rcases Nat.lt_or_ge j σ.length with lt | ge
     ·rw [List.getElem?_append_left lt] at hj
      rw [List.getElem?_append_left (by rw [R.len];exact lt)] at hp
      have:=R.obs j ob p hj hp
      cases ob with
      | inst c fs=>obtain ⟨l,c',es,n',d',f⟩:=this;exact ⟨l,x1 _ _ c',es,n',x1 _ _ d',f.mono Gr (x1.keep (own:=[])) (.nil _)⟩
     ·rw [List.getElem?_append_right ge] at hj
      rw [List.getElem?_append_right (by rw [R.len];exact ge),R.len] at hp
      cases hjj:j - σ.length with
      | zero =>
       rw [hjj] at hj hp
       obtain rfl:=aaa hj;obtain rfl:=aaa hp
       exact ⟨Nat.zero_le _,gx,[],0,gd,rfl⟩
      | succ i=>rw [hjj] at hj;simp at hj}
 have at1:(φ.objs++[(hh.objs.size+1,hh.objs.size)])[σ.length]? = some (hh.objs.size+1,hh.objs.size):=by
  rw [List.getElem?_append_right (by rw [R.len];exact Nat.le_refl _),R.len,Nat.sub_self];rfl
 refine hF _ ⟨h1,g,d,t,os⟩ _ _ ⟨φ.objs++[(hh.objs.size+1,hh.objs.size)],φ.bad⟩ [.obj σ.length] [.ref (hh.objs.size+1)] _ _ (Aa a hk') (fr.keep (ow:=[]) Gr x1.keep fun zz m=>nomatch m) R1 ?_ e1 ?_
 ·rw [aB]
  exact ⟨_,[],rfl,by rw [hS];exact ⟨_,at1,rfl⟩,by rw [aN]⟩
 ·intro φ2 h2 t2 u S2 R2 r2
  rw [eY] at r2
  subst r2
  have S1:Stp false φ hh ⟨φ.objs++[(hh.objs.size+1,hh.objs.size)],φ.bad⟩ h1:=⟨Gr,x1.keep,fun z=>by injection z⟩
  exact ⟨rfl,h φ2 h2 t2 (.ref (hh.objs.size+1)) (S1.trans R1 S2) R2 (by rw [hS];exact ⟨_,S2.grow.at at1,rfl⟩)⟩
theorem pk (B:bD G prog w N h₀ K ga ba n):jy G prog w N h₀ K ga ba n:=⟨Ej B⟩
end
noncomputable def Ab (c:Cx) (x:X):List Stmt→Bool
 | [t1,t2,t3]=>fR t1 (fun ts v=>one ts fun t=>cN t fun n=>c.vars[1]?==some n&&rp v fun es=>es.isEmpty) &&
  wq t2 (fun t e bs el=>el.isEmpty&&cN t fun cn=>c.vars[2]?==some cn&&i5 e&&okX c (.loc 0) e&&one bs fun b=>pi b fun ce=>kR ce fun o nm ap es p=>one es fun xe=>cN o (fun sn=>c.vars[1]?==some sn&&kP c.sc sn&&!(sn==("__debug__":Str)))&&nm==("append":Str)&&ap.endLine==p.line&&bZ xe&&okX c x xe) &&
  okS c (.ret (.sm .join (.str []) (.loc 1))) t3&&c.vars.all (fun n=>c.sc.names.lookup n==some .local)&&decide (c.vars.length=3)&&aK x
 | _=>false
noncomputable def nJ (el:List (List Nat)→Nat→Option (List Nat)):List (List Nat)→List Nat→Option (List (List Nat))
 | acc,[]=>some acc
 | acc,x :: r=>(el acc x).bind fun y=>nJ el (acc++[y]) r
noncomputable def wz (v:V):Option (List Nat):=asS v some
theorem Gx {ρ:Rho}{l:List Nat}(el:((ρ[0]?).bind id).bind wz=some l):ρ[0]? = some (some (.str l)):=by
 obtain ⟨v,h1,h2⟩:=bind_some el
 obtain ⟨r,h3,h4⟩:=bind_some h1
 exact h3.trans (congrArg some (h4.trans (congrArg some (cY (m:=fun v=>v = .str l) h2 fun x e=>congrArg V.str (aaa e)))))
noncomputable def pn (G:Sg) (l:List Nat) (x:X) (σ:St) (acc:List (List Nat)) (c:Nat):Option (List Nat):=(ev G [some (.str l),some (.list (acc.map .str)),some (.str [c])] σ x).bind fun p=>wz p.1
noncomputable def jE (G:Sg) (x:X):Rho→St→Res:=fun ρ σ=>(((ρ[0]?).bind id).bind wz).bind fun l =>
 (nJ (pn G l x σ) [] l).bind fun ts=>if ts.flatten.length≤big then some (.ret (.str ts.flatten),[some (.str l),some (.list (ts.map .str)),l.getLast?.map fun c=>.str [c]],σ) else none
section
variable {N:aH}{prog:Program}{w:World}{h₀ h h' h₁ hO:Heap}{σ σ':St}{φ:Phi}{env:Env}{vars:List Str}{ρ ρ':Rho}{A:Around}{E:Value→Shared→Prop}{s:Shared}{G:Sg}{K:Frag}{ga ba:Addr}{n:Nat}{c:Cx}
noncomputable def Up (env:Env) (h h':Heap):Prop:=∀ b o,h.get? b=some o→b≠env.locals→h'.get? b=some o
theorem Up.keepO (u:Up env h h'):f6 [env.locals] h h':=fun b o e nb=>u b o e fun q=>nb (aai.mpr q)
theorem Cp (F:Fra w h₀ φ env vars ρ h):Own h [env.locals]:=fun b hb=>by
 rw [aai.mp hb];exact F.own_ok _ aam
theorem Up.rel (u:Up env h h') (F:Fra w h₀ φ env vars ρ h) (R:Rel N w h₀ σ φ h):Rel N w h₀ σ φ h' :=
 R.own u.keepO (Cp F) (fun b hb=>by rw [aai.mp hb];exact F.fresh _ aam) fun m hm=>by
  obtain ⟨o,e⟩:=Option.isSome_iff_exists.mp (R.mut_some m hm)
  rw [e,u m o e fun q=>F.notm _ aam (q▸hm)]
theorem Up.fra {m:Str→Option Value}(u:Up env h h') (F:Fra w h₀ φ env vars ρ h) (hn:h'.Ns env.locals m) (lc:∀ (i:Nat) (nm:Str),vars[i]? = some nm→env.kindOf nm=some .local)
 (hv:∀ (i:Nat) (v:V) (nm:Str),ρ'[i]? = some (some v)→vars[i]? = some nm→∃ x,m nm=some x∧Rep w φ h' v x):Fra w h₀ φ env vars ρ' h' where
 fn:=F.fn
 ns:=⟨m,hn,fun i v nm a b zz=>hv i v nm a b⟩
 fresh:=F.fresh
 notm:=F.notm
theorem Up.fr (u:Up env h h') (F:Fra w h₀ φ env vars ρ h) {m:Str→Option Value}(hn:h'.Ns env.locals m) (f:bw h₀ A φ h):bw h₀ A φ h':=f.keep (.refl _ _) u.keepO.keep fun b hb o e d=>by
 rw [aai.mp hb]
 obtain ⟨o',es,k,e',d',_⟩:=hn
 exact ⟨o',e',es,k,d'⟩
inductive wA (G:Sg) (w:World) (φ:Phi) (env:Env) (x:X) (σ:St) (l:List Nat) (ts:List (List Nat)) (wn sn cn:Str) (t0:Tok) (D I:Addr) (hO:Heap) (St:Nat→Heap→Prop) (s:Shared) (k:Nat) (s':Shared):Prop where
 | mk (h1:Heap) (t1:Tok) (i:Nat) (acc:List (List Nat)) (us:Array Value) (m:Str→Option Value) (e:s' = { s with heap:=h1,toks:=t1}) (ek:k=l.length+1 - i) (hi:i≤l.length) (st:St i h1) (up:Up env hO h1) (hn:h1.Ns env.locals m) (mw:m wn=some (.str (txt l) t0)) (ms:m sn=some (.ref D))
  (mc:∀ c,(l.take i).getLast? = some c→∃ t,m cn=some (.str (txt [c]) t)) (pl:h1.PlainList D us) (rs:Reps w φ h1 (acc.map .str) us.toList) (sz:us.size≤i) (g:nJ (pn G l x σ) acc (l.drop i)=some ts)
theorem jF:∀ {acc:List (List Nat)}{us:List Value},Reps w φ h (acc.map .str) us→Reps w φ h' (acc.map .str) us
 | [],_,r=>by rw [List.map_nil,aN] at r ⊢;exact r
 | a :: acc,us,r=>by
  rw [List.map_cons,aB] at r ⊢
  obtain ⟨v,q,e,r1,r2⟩:=r
  exact ⟨v,q,e,by rw [dB] at r1 ⊢;exact r1,jF r2⟩
theorem vf {l:List Nat}{u:Value}(r:Rep w φ h (.str l) u):Rep w φ h' (.str l) u:=by rw [dB] at r ⊢;exact r
theorem iD {α:Type}{a b c:α}{i:Nat}{x:α}{C:Prop}(e:[a,b,c][i]? = some x) (k0:i=0→a=x→C) (k1:i=1→b=x→C) (k2:i=2→c=x→C):C:=by
 match i,e with
 | 0,e=>exact k0 rfl (aaa e)
 | 1,e=>exact k1 rfl (aaa e)
 | 2,e=>exact k2 rfl (aaa e)
 | i+3,e=>injection e
theorem tV {α:Type}{l:List α}(h:l.length=3):∃ a b c,l=[a,b,c]:=by
 match l,h with
 | [a,b,c],_=>exact ⟨a,b,c,rfl⟩
theorem kg {wn sn cn:Str}{m:Str→Option Value}{l:List Nat}{acc:List (List Nat)}{t0:Tok}{D:Addr}{us:Array Value}{v2:Option V}(u:Up env h h') (F:Fra w h₀ φ env [wn,sn,cn] ρ h) (hn:h'.Ns env.locals m) (lc:∀ (i:Nat) (nm:Str),[wn,sn,cn][i]? = some nm→env.kindOf nm=some .local)
 (okl:fo l) (mw:m wn=some (.str (txt l) t0)) (ms:m sn=some (.ref D)) (mc:∀ v,v2=some v→∃ x,m cn=some x∧Rep w φ h' v x) (pl:h'.PlainList D us) (nD:D∉au φ) (la:acc.length≤big) (rs:Reps w φ h' (acc.map .str) us.toList):Fra w h₀ φ env [wn,sn,cn] [some (.str l),some (.list (acc.map .str)),v2] h' :=
 u.fra F hn lc fun i v nm a b=>iD a (fun e0 e=>iD b (fun zz eb=>by obtain rfl:=aaa e;cases eb;exact ⟨_,mw,cI okl _⟩) (fun e1 zz=>by omega) fun e1 zz=>by omega)
  (fun e0 e=>iD b (fun e1 zz=>by omega) (fun zz eb=>by
   obtain rfl:=aaa e;cases eb
   obtain ⟨nn,g⟩:=pl
   exact ⟨_,ms,by rw [cX];exact ⟨by rw [List.length_map];exact la,D,us.toList,nn,rfl,nD,g,rs⟩⟩) fun e1 zz=>by omega)
  fun e0 e=>iD b (fun e1 zz=>by omega) (fun e1 zz=>by omega) fun zz eb=>by cases eb;exact mc v e
theorem Cq {wn sn cn:Str}{x:X}{xe:Expr}{l:List Nat}{ts:List (List Nat)}{t0:Tok}{D I:Addr}{h₂:Heap}{fp:List Addr}{Pp:Nat→Value→Prop}{St:Nat→Heap→Prop}{np snp ap cp xp:Pos}{hA:Heap}(hx:ay G prog w N h₀ ga ba n x) (px:aK x=true)
 (P:Pre G N w h₀ ga ba n ⟨c.sc,[wn,sn,cn],c.P⟩ env A ρ σ φ s) (lc:∀ (i:Nat) (nm:Str),[wn,sn,cn][i]? = some nm→env.kindOf nm=some .local) (hd:(sn==("__debug__":Str))=false) (okl:fo l) (nDO:s.heap.get? D=none) (hline:(ap.endLine==cp.line)=true) (hst:bZ xe=true) (ox:okX ⟨c.sc,[wn,sn,cn],c.P⟩ x xe=true)
 (Sr:Src prog w A φ hA I (l.map fun c=>.str [c]) h₂ fp Pp St) (fp1:∀ b∈fp,b=I) (ID:I≠D) (IL:I≠env.locals) (IO:s.heap.get? I=none)
 {k:Nat}{s':Shared}(J:wA G w φ env x σ l ts wn sn cn t0 D I s.heap St s k s') {EE:Value→Shared→Prop}{NX:Flow→Shared→Prop}{QN:Option Value→Shared→Prop}
 (some_:∀ u s1,wpAny (model prog w) A (assign (.Name cn np) env u) (fun zz s3=>wpAny (model prog w) A (execs [.Expr (.Call (.Attribute (.Name sn snp) "append" ap) [xe] [] cp) xp] env) NX EE s3) EE s1→QN (some u) s1)
 (nx:∀ s1,(∃ k',k'<k∧wA G w φ env x σ l ts wn sn cn t0 D I s.heap St s k' s1)→NX .next s1) (none_:∀ s1,wA G w φ env x σ l ts wn sn cn t0 D I s.heap (fun zz zz=>True) s 1 s1→QN none s1) :
 wpAny (model prog w) A (pyNext (.ref I)) QN EE s':=by
 obtain ⟨h1,t1,i,acc,us,m,rfl,rfl,hi,st,up,hn,mw,ms,mc,pl,rs,sz,g⟩:=J
 have nI:∀ {b o},s.heap.get? b=some o→b∉[I]:=fun e q=>by rw [aai.mp q,IO] at e;injection e
 have nD:D∉au φ:=dp P.R nDO
 have DL:D≠env.locals:=fun q=>by obtain ⟨o,e⟩:=P.F.own_some _ aam;rw [← q,nDO] at e;injection e
 have ln:(l.map fun c=>V.str [c]).length=l.length:=List.length_map _
 by_cases hlt:i<l.length
 ·refine Sr.walks.item i _ _ _ (by rw [ln];exact hlt) st fun u h2 t2 hP st2 hk=>some_ _ _ ?_
  have hxi:(l.map fun c=>V.str [c])[i]? = some (.str [l[i]]):=by rw [List.getElem?_map,List.getElem?_eq_getElem hlt];rfl
  have ru:=Sr.item i u _ hP hxi
  have ru':=ru
  obtain ⟨tu,rfl⟩:∃ t,u = .str (txt [l[i]]) t:=by rw [dB] at ru';exact ru'.2
  have hn2:h2.Ns env.locals m:=Ns.at1 hn fun o e=>hk _ o (fun q=>IL (aai.mp q).symm) e
  refine wpAny_assign_Name (wpAny_storeName_local (lc 2 cn rfl) hn2 (fun h3 hn3 hs3=>?_) (by rw [P.F.fn];rfl))
  have nmw:wn≠cn:=fun q=>by have:=ia (vars:=[wn,sn,cn]) P.cx.nd (i:=0) (j:=2) rfl (congrArg some q.symm);injection this
  have nms:sn≠cn:=fun q=>by have:=ia (vars:=[wn,sn,cn]) P.cx.nd (i:=1) (j:=2) rfl (congrArg some q.symm);(injection this with hE;cases hE)
  have up3:Up env s.heap h3:=fun b o e nb=>hs3.extBut b o nb (hk b o (nI e) (up b o e nb))
  have pl3:h3.PlainList D us:=pl.at fun o e=>hs3.extBut D o DL (hk D o (fun q=>ID (aai.mp q).symm) e)
  have rs3:Reps w φ h3 (acc.map .str) us.toList:=jF rs
  have st3:St (i+1) h3:=Sr.walks.frame _ _ _ st2 fun b hb o e=>hs3.extBut b o (fp1 b hb▸IL) e
  have la:acc.length≤big:=by
   have:=rs.len;rw [List.length_map,Array.length_toList] at this
   have:=Sr.few;rw [ln] at this;lia
  have F3:Fra w h₀ φ env [wn,sn,cn] [some (.str l),some (.list (acc.map .str)),some (.str [l[i]])] h3 :=
   kg up3 P.F hn3 lc okl (by show (if wn=cn then _ else m wn)=_;rw [if_neg nmw];exact mw) (by show (if sn=cn then _ else m sn)=_;rw [if_neg nms];exact ms) (fun v e=>by obtain rfl:=aaa e;exact ⟨_,if_pos rfl,vf ru⟩) pl3 nD la rs3
  have P3:Pre G N w h₀ ga ba n ⟨c.sc,[wn,sn,cn],c.P⟩ env A _ σ φ { s with heap:=h3,toks:=t2+1}:=⟨P.cx,P.a,up3.fr P.F hn3 P.fr,up3.rel P.F P.R,F3⟩
  rw [List.drop_eq_getElem_cons hlt] at g
  refine bq g fun y gy g=>bq gy fun r ey sy=>?_
  obtain ⟨v,σ1⟩:=r
  have hσ:σ1=σ:=aX px ey
  obtain rfl:v = .str y:=by cases v<;>first | exact congrArg V.str (aaa sy) | exact bH sy
  refine wpAny_execs_cons (wpAny_Expr_any ?_ (by unfold interactive;rw [P.F.fn];rfl) rfl)
  refine ka (hbase:=rfl) (hst:=by rw [List.all_cons,hst];rfl) (hlen:=by show 1<29;decide) (hline:=hline) ?_
  refine wpAny_Name (wpAny_loadName_local P.F.fn (lc 1 sn rfl) hn3 (by show (if sn=cn then _ else m sn)=_;rw [if_neg nms];exact ms) fun pl0=>?_) hd
  obtain ⟨nn,gD⟩:=pl3
  refine getMethod_list_append (s:={ s with heap:=h3,toks:=t2+1}) gD rfl rfl ?_
  refine wd ?_
  refine rI hx wh _ _ _ _ _ σ [.str y] _ _ _ _ _ (rr hst ox) P3 (u6 (by rw [ey,hσ])) fun φ4 h4 t4 us4 S4 R4 r4=>?_
  obtain ⟨uy,rfl,ry⟩:=rK r4
  obtain ⟨rfl,x4⟩:=S4.pu (nt px)
  have la':us.size≤sizeLine:=by
   have:=Sr.few;rw [ln] at this
   exact aaf sz (aaf (Nat.le_of_lt hlt) (aaf this hY))
  refine wpAny_list_append_plain (s:={ s with heap:=h4,toks:=t4}) (hsz:=la') (l:=D) (items:=us) ⟨nn,x4 _ _ gD⟩ fun h5 pl5 hs5=>wpAny_execs_nil (nx _ ⟨_,mf hlt,h5,t4,i+1,acc++[y],us.push uy,_,rfl,rfl,hlt,?_,fun b o e nb=>?_,(Ns.ext hn3 x4).sameBut hs5 (Ne.symm DL),?_,?_,fun cc hc=>?_,pl5,?_,?_,g⟩)
  ·exact Sr.walks.frame _ _ _ st3 fun b hb o e=>hs5.extBut b o (fun q=>ID (fp1 b hb▸q)) (x4 _ _ e)
  ·exact hs5.extBut b o (fun q=>by rw [q,nDO] at e;injection e) (x4 _ _ (up3 b o e nb))
  ·show (if wn=cn then _ else m wn)=_;rw [if_neg nmw];exact mw
  ·show (if sn=cn then _ else m sn)=_;rw [if_neg nms];exact ms
  ·have:(l.take (i+1)).getLast? = some l[i]:=by
    rw [List.take_succ_eq_append_getElem hlt,List.getLast?_append];rfl
   rw [this] at hc;obtain rfl:=aaa hc
   exact ⟨tu,if_pos rfl⟩
  ·rw [Array.toList_push,List.map_append]
   exact Reps.app (jF rs3) (by show Reps _ _ _ [.str y] [uy];rw [aB];exact ⟨uy,[],rfl,vf ry,by rw [aN]⟩)
  ·rw [Array.size_push];exact Nat.succ_le_succ sz
 ·cases Nat.le_antisymm hi (Nat.le_of_not_lt hlt)
  refine Sr.walks.done (s:={ s with heap:=h1,toks:=t1}) _ _ (ln.symm▸st) fun h2 t2 hk=>none_ _ ?_
  exact ⟨h2,t2,l.length,acc,us,m,rfl,by lia,Nat.le_refl _,trivial,fun b o e nb=>hk b o (nI e) (up b o e nb),Ns.at1 hn fun o e=>hk _ o (fun q=>IL (aai.mp q).symm) e,mw,ms,mc,pl.at fun o e=>hk D o (fun q=>ID (aai.mp q).symm) e,jF rs,sz,g⟩
theorem dZ:∀ ts:List (List Nat),bG (ts.map .str)=some ts
 | []=>rfl
 | t :: ts=>by show (bG (ts.map V.str)).map (t :: ·)=_;rw [dZ ts];rfl
theorem Ac {m:Nat}{ts:List (List Nat)}{a b:Option V}(hl:ts.flatten.length≤big):exS G m (.ret (.sm .join (.str []) (.loc 1))) [a,some (.list (ts.map .str)),b] σ=some (.ret (.str ts.flatten),[a,some (.list (ts.map .str)),b],σ):=by
 have:smV .join (.str []) (.list (ts.map .str))=some (.str ts.flatten):=by
  show ((bG (ts.map .str)).bind fun ts=>if ts.flatten.length≤big then some (V.str ts.flatten) else none)=_
  rw [dZ];exact if_pos hl
 show (((smV .join (.str []) (.list (ts.map .str))).map (·,σ)).map fun p=>(Out.ret p.1,_,p.2))=_
 rw [this];rfl
theorem Cr {c:Cx}{x:X}{ts:List Stmt}{m:Cx→List Stmt→Prop}(ok:Ab c x ts=true)
 (k:∀ (sc:Scope) (Pg0:Pg) (wn sn cn:Str) (snp lp p1 np snp2 ap cp xp fp:Pos) (ie xe:Expr) (t3:Stmt),(∀ (i:Nat) (nm:Str),[wn,sn,cn][i]? = some nm→sc.names.lookup nm=some .local)→aK x=true→okS ⟨sc,[wn,sn,cn],Pg0⟩ (.ret (.sm .join (.str []) (.loc 1))) t3=true→i5 ie=true→okX ⟨sc,[wn,sn,cn],Pg0⟩ (.loc 0) ie=true→okX ⟨sc,[wn,sn,cn],Pg0⟩ x xe=true→bZ xe=true→(ap.endLine==cp.line)=true→(!(sn==("__debug__":Str)))=true →
  m ⟨sc,[wn,sn,cn],Pg0⟩ [.Assign [.Name sn snp] (.List [] lp) p1,.For (.Name cn np) ie [.Expr (.Call (.Attribute (.Name sn snp2) "append" ap) [xe] [] cp) xp] [] fp,t3]):m c ts:=by
 match ts,ok with
 | [t1,t2,t3],ok =>
  refine aI ok fun ok hl px=>aq ok fun ok hv=>aI ok fun o1 o2 o3=>?_
  obtain ⟨sc,vars,Pg0⟩:=c
  obtain ⟨wn,sn,cn,rfl⟩:=tV (of_decide_eq_true hl)
  refine eC (m:=fun t1=>m _ [t1,t2,t3]) o1 fun ts v p1 q=>cw (m:=fun ts=>m _ [.Assign ts v p1,t2,t3]) q fun t q=>bu (m:=fun t=>m _ [.Assign [t] v p1,t2,t3]) q fun n1 snp q=>aq q fun q1 q2=>j7 (m:=fun v=>m _ [.Assign [.Name n1 snp] v p1,t2,t3]) q2 fun es lp q2=>cO (m:=fun es=>m _ [.Assign [.Name n1 snp] (.List es lp) p1,t2,t3]) q2 ?_
  obtain rfl:sn=n1:=aaa (eq_of_beq q1)
  refine rU (m:=fun t2=>m _ [_,t2,t3]) o2 fun t ie bs el fp q=>aq q fun q0 q=>cO (m:=fun el=>m _ [_,.For t ie bs el fp,t3]) q0 (bu (m:=fun t=>m _ [_,.For t ie bs [] fp,t3]) q fun n2 np q=>aq q fun q q5=>aI q fun q3 q4 oi=>?_)
  obtain rfl:cn=n2:=aaa (eq_of_beq q3)
  refine cw (m:=fun bs=>m _ [_,.For (.Name cn np) ie bs [] fp,t3]) q5 fun b q5=>nw (m:=fun b=>m _ [_,.For (.Name cn np) ie [b] [] fp,t3]) q5 fun ce xp q5=>fu (m:=fun ce=>m _ [_,.For (.Name cn np) ie [.Expr ce xp] [] fp,t3]) q5 fun oe nm ap es2 cp q5=>cw (m:=fun es2=>m _ [_,.For (.Name cn np) ie [.Expr (.Call (.Attribute oe nm ap) es2 [] cp) xp] [] fp,t3]) q5 fun xe q5=>aq q5 fun q5 ox=>aq q5 fun q5 hst=>aI q5 fun q7 q6 hline=>?_
  obtain rfl:=eq_of_beq q6
  refine bu (m:=fun oe=>m _ [_,.For (.Name cn np) ie [.Expr (.Call (.Attribute oe _ ap) [xe] [] cp) xp] [] fp,t3]) q7 fun n3 snp2 q7=>aI q7 fun q8 zz hdb=>?_
  obtain rfl:sn=n3:=aaa (eq_of_beq q8)
  exact k _ _ _ _ _ _ _ _ _ _ _ _ _ _ _ _ _ (fun i nm q=>eq_of_beq (aab.mp hv nm (aah q))) px o3 q4 oi ox hst hline hdb
theorem tW (B:bD G prog w N h₀ K ga ba n) (L:jy G prog w N h₀ K ga ba n) {x:X}{sc:Scope}{Pg0:Pg}{wn sn cn:Str}{snp lp p1 np snp2 ap cp xp fp:Pos}{ie xe:Expr}{t3:Stmt}(lcs:∀ (i:Nat) (nm:Str),[wn,sn,cn][i]? = some nm→sc.names.lookup nm=some .local) (px:aK x=true) (o3:okS ⟨sc,[wn,sn,cn],Pg0⟩ (.ret (.sm .join (.str []) (.loc 1))) t3=true) (q4:i5 ie=true) (oi:okX ⟨sc,[wn,sn,cn],Pg0⟩ (.loc 0) ie=true) (ox:okX ⟨sc,[wn,sn,cn],Pg0⟩ x xe=true) (hst:bZ xe=true) (hline:(ap.endLine==cp.line)=true) (hdb:(!(sn==("__debug__":Str)))=true) :
 pj G prog w N h₀ ga ba n ⟨sc,[wn,sn,cn],Pg0⟩ true (jE G x) [.Assign [.Name sn snp] (.List [] lp) p1,.For (.Name cn np) ie [.Expr (.Call (.Attribute (.Name sn snp2) "append" ap) [xe] [] cp) xp] [] fp,t3]:=fun env ρ ρ' σ σ' o φ s A E Q P tp e h=>by
 have lc:∀ (i:Nat) (nm:Str),[wn,sn,cn][i]? = some nm→env.kindOf nm=some .local:=fun i nm q=>(congrArg (fun s:Scope=>s.names.lookup nm) P.cx.sc).trans (lcs i nm q)
 refine bq e fun l el e=>bq e fun tx gl e=>dS e fun hbig e=>?_
 have hρ:=Gx el
 have h:dY G N w h₀ true (.ret (.str tx.flatten)) [some (.str l),some (.list (tx.map .str)),l.getLast?.map fun c=>.str [c]] σ env [wn,sn,cn] φ s Q E:=(congrArg (fun r:Out×Rho×St=>dY G N w h₀ true r.1 r.2.1 r.2.2 env [wn,sn,cn] φ s Q E) e).mpr h
 obtain ⟨m0,hn0,hm0⟩:=P.F.ns
 obtain ⟨u0,hu0,r0⟩:=hm0 0 _ wn hρ rfl (lc 0 wn rfl)
 have r0':=r0
 rw [dB] at r0'
 obtain ⟨okl,t0,rfl⟩:=r0'
 have nms:wn≠sn:=fun q=>by have:=ia (vars:=[wn,sn,cn]) P.cx.nd (i:=0) (j:=1) rfl (congrArg some q.symm);injection this
 refine wpAny_execs_cons (wpAny_Assign_Name (wpAny_List ?_) rfl)
 refine spliced_nil ⟨Nat.zero_le _,?_⟩
 have x1:Ext s.heap (s.heap.push { cls:=.type "list",data:=.seq ([]:List Value).toArray}):=Ext.push _ _
 have gD:(s.heap.push { cls:=.type "list",data:=.seq ([]:List Value).toArray}).get? s.heap.objs.size=some { cls:=.type "list",data:=.seq ([]:List Value).toArray}:=Heap.get?_push_size _ rfl
 have nDO:s.heap.get? s.heap.objs.size=none:=dj _
 have DL:s.heap.objs.size≠env.locals:=fun q=>by obtain ⟨o,e⟩:=P.F.own_some _ aam;rw [← q,nDO] at e;injection e
 generalize s.heap.objs.size=D at gD nDO DL ⊢
 generalize s.heap.push { cls:=.type "list",data:=.seq ([]:List Value).toArray} = h1 at x1 gD ⊢
 refine wpAny_storeName_local (s:={ s with heap:=h1}) (lc 1 sn rfl) (Ns.ext hn0 x1) (fun h2 hn2 hs2=>?_) (by rw [P.F.fn];rfl)
 have up2:Up env s.heap h2:=fun b o e nb=>hs2.extBut b o nb (x1 _ _ e)
 have gD2:=hs2.extBut D _ DL gD
 have mw2:(fun x=>if x=sn then some (Value.ref D) else m0 x) wn=some (.str (txt l) t0):=(if_neg nms).trans hu0
 have ms2:(fun x=>if x=sn then some (Value.ref D) else m0 x) sn=some (.ref D):=if_pos rfl
 have nD:D∉au φ:=dp P.R nDO
 have P2:Pre G N w h₀ ga ba n ⟨sc,[wn,sn,cn],Pg0⟩ env A [some (.str l),some (.list (([]:List (List Nat)).map .str)),none] σ φ { s with heap:=h2,toks:=s.toks+1} :=
  ⟨P.cx,P.a,up2.fr P.F hn2 P.fr,up2.rel P.F P.R,kg up2 P.F hn2 lc okl mw2 ms2 (fun zz e=>(by injection e)) ⟨_,gD2⟩ nD (Nat.zero_le _) (by rw [List.map_nil,aN])⟩
 show wpAny (model prog w) A (execs [_,t3] env) Q E { s with heap:=h2,toks:=s.toks+1}
 refine wpAny_execs_cons (wpAny_For (wj (G:=G) (N:=N) (h₀:=h₀) (ga:=ga) (ba:=ba) (n:=n) _ _ _ _ σ σ (.str l) φ _ _ _ _ oi P2 rfl fun φ3 h3 t3' u3 S3 R3 r3=>?_) (kc q4))
 obtain ⟨rfl,x3⟩:=S3.pu rfl
 refine rE (s:={ s with heap:=h3,toks:=t3'}) P.a.1 r3 fun I h4 fpI Pp St fp1 Sr=>?_
 have up4:Up env s.heap h4:=fun b o e nb=>Sr.ext _ _ (x3 _ _ (up2 b o e nb))
 have hn4:=Ns.ext (Ns.ext hn2 x3) Sr.ext
 have gD3:h3.get? D=_:=x3 _ _ gD2
 have ID:I≠D:=fun q=>by have:=Sr.new;rw [q] at this;exact absurd (this.symm.trans gD3) (by simp)
 have IL:I≠env.locals:=fun q=>by obtain ⟨o,_,_,e,_⟩:=Ns.ext hn2 x3;have:=Sr.new;rw [q] at this;exact absurd (this.symm.trans e) (by simp)
 have IO:s.heap.get? I=none:=by
  cases z:s.heap.get? I with
  | none=>rfl
  | some o=>have:=x3 _ _ (up2 I o z IL);have w:=Sr.new;exact absurd (w.symm.trans this) (by simp)
 refine codeAny_forLoop_any (wA G w φ3 env x σ l tx wn sn cn t0 D I s.heap St s) (fun k s' J=>Cq (c:=⟨sc,[wn,sn,cn],Pg0⟩) (hA:=h3) (s:=s) (fp:=fpI) (Pp:=Pp) (aL B L x).1 px P lc (bE hdb) okl nDO hline hst ox Sr fp1 ID IL IO J (fun u s1 z=>wpAny_pure z) (fun zz z=>z) fun s1 J=>wpAny_execs_nil ?_) (l.length+1)
  ⟨h4,t3',0,[],#[],_,rfl,rfl,Nat.zero_le _,Sr.start,up4,hn4,mw2,ms2,(fun zz z=>(by injection z)),⟨_,Sr.ext _ _ gD3⟩,by rw [List.map_nil,aN],Nat.le_refl _,gl⟩
 obtain ⟨h5,t5,i,acc,us,m5,rfl,ek,hi,_,up5,hn5,mw5,ms5,mc5,pl5,rs5,sz5,g5⟩:=J
 obtain rfl:i=l.length:=by omega
 rw [List.drop_of_length_le (Nat.le_refl _)] at g5
 obtain rfl:acc=tx:=aaa g5
 have la:acc.length≤big:=by
  have:=rs5.len;rw [List.length_map,Array.length_toList] at this
  have:=okl.1;lia
 have P5:Pre G N w h₀ ga ba n ⟨sc,[wn,sn,cn],Pg0⟩ env A [some (.str l),some (.list (acc.map .str)),l.getLast?.map fun c=>.str [c]] σ φ3 { s with heap:=h5,toks:=t5} :=
  ⟨P.cx,P.a,up5.fr P.F hn5 P.fr,up5.rel P.F P.R,kg up5 P.F hn5 lc okl mw5 ms5 (fun v e=>by
   obtain ⟨c,hc,rfl⟩:=Option.map_eq_some_iff.mp e
   obtain ⟨t,ht⟩:=mc5 c (by rw [List.take_of_length_le (Nat.le_refl _)];exact hc)
   exact ⟨_,ht,cI (l:=[c]) ⟨show 1≤big by decide,fun d hd=>by rw [aai.mp hd];exact okl.2 _ (List.mem_of_getLast? hc)⟩ _⟩) pl5 nD la rs5⟩
 refine wpAny_execs_cons (ym B L _ _ _ _ _ _ _ _ _ _ _ _ _ _ o3 P5 tp (Ac (m:=0) hbig) fun φ6 h6 t6 f S6 R6 F6 fl=>?_)
 obtain ⟨rfl,x6⟩:=S6.pu rfl
 have z:=h φ6 h6 t6 f ⟨.refl _ _,fun b o e n1 n2=>⟨o,x6 _ _ (up5 b o e fun q=>n2 (q▸aam)) n2,.refl _⟩,fun zz=>⟨rfl,fun b o e n2=>x6 _ _ (up5 b o e fun q=>n2 (q▸aam)) n2⟩⟩ R6 F6 (by obtain ⟨u,hu,r⟩:=fl;exact ⟨u,hu,r⟩)
 obtain ⟨u,rfl,r⟩:=fl
 exact z
theorem yo (B:bD G prog w N h₀ K ga ba n) (L:jy G prog w N h₀ K ga ba n) {x:X}{ts:List Stmt}(ok:Ab c x ts=true):pj G prog w N h₀ ga ba n c true (jE G x) ts :=
 Cr (m:=fun c ts=>pj G prog w N h₀ ga ba n c true (jE G x) ts) ok fun zz zz zz zz zz zz zz zz zz zz zz zz zz zz zz zz zz a b c d e f g h i=>tW B L a b c d e f g h i
end
end Mine
end
section
open PySem PySem.W PyProof.Rows
namespace Mine
noncomputable abbrev pw:Program:=PySem.Challenge.rw_is0019_02.prog
noncomputable abbrev Row:=List Nat×Int×Int
noncomputable def Ek:List Str:=["self"]
noncomputable def El:List S:=[.expr (.meth (.loc 0) 12 [.str []])]
noncomputable def qu:List Str:=["self","value"]
noncomputable def qv:List S:=[.setA (.loc 0) 0 (.loc 1),
 .setA (.loc 0) 1 (.int 0),
 .setA (.loc 0) 2 (.bi .len [.attr (.loc 0) 0]),
 .setA (.loc 0) 3 (.int 0),
 .setA (.loc 0) 4 (.attr (.loc 0) 1),
 .setA (.loc 0) 5 (.attr (.loc 0) 2)]
noncomputable def qw:List Str:=["self"]
noncomputable def qx:List S:=[.ret (.attr (.loc 0) 0)]
noncomputable def qy:List Str:=["self","s"]
noncomputable def qz:List S:=[.ite (.cmp .ge (.attr (.loc 0) 1) (.attr (.loc 0) 2)) [.ret (.bool false)] [],
 .ite (.cmp .notin (.idx (.attr (.loc 0) 0) (.attr (.loc 0) 1)) (.loc 1)) [.ret (.bool false)] [],
 .augA (.loc 0) 1 .add (.int 1),
 .ret (.bool true)]
noncomputable def mj:List Str:=["self","s"]
noncomputable def mo:List S:=[.whl (.cmp .lt (.attr (.loc 0) 1) (.attr (.loc 0) 2)) [.ite (.cmp .notin (.idx (.attr (.loc 0) 0) (.attr (.loc 0) 1)) (.loc 1)) [.ret (.bool true)] [],
 .augA (.loc 0) 1 .add (.int 1)],
 .ret (.bool false)]
noncomputable def nK:List Str:=["self","s"]
noncomputable def nL:List S:=[.ite (.cmp .le (.attr (.loc 0) 1) (.attr (.loc 0) 3)) [.ret (.bool false)] [],
 .ite (.cmp .notin (.idx (.attr (.loc 0) 0) (.bin .sub (.attr (.loc 0) 1) (.int 1))) (.loc 1)) [.ret (.bool false)] [],
 .augA (.loc 0) 1 .sub (.int 1),
 .ret (.bool true)]
noncomputable def lJ:List Str:=["self","s"]
noncomputable def lK:List S:=[.whl (.cmp .lt (.attr (.loc 0) 1) (.attr (.loc 0) 2)) [.ite (.cmp .isin (.idx (.attr (.loc 0) 0) (.attr (.loc 0) 1)) (.loc 1)) [.ret (.bool true)] [],
 .augA (.loc 0) 1 .add (.int 1)],
 .ret (.bool false)]
noncomputable def mq:List Str:=["self","s"]
noncomputable def mr:List S:=[.ite (.cmp .le (.attr (.loc 0) 1) (.attr (.loc 0) 3)) [.ret (.bool false)] [],
 .ite (.cmp .notin (.idx (.attr (.loc 0) 0) (.bin .sub (.attr (.loc 0) 1) (.int 1))) (.loc 1)) [.augA (.loc 0) 1 .sub (.int 1),
  .ret (.bool true)] [],
 .ret (.bool false)]
noncomputable def jY:List Str:=["self","s"]
noncomputable def jZ:List S:=[.whl (.cmp .gt (.attr (.loc 0) 1) (.attr (.loc 0) 3)) [.ite (.cmp .isin (.idx (.attr (.loc 0) 0) (.bin .sub (.attr (.loc 0) 1) (.int 1))) (.loc 1)) [.ret (.bool true)] [],
 .augA (.loc 0) 1 .sub (.int 1)],
 .ret (.bool false)]
noncomputable def Ad:List Str:=["self","s"]
noncomputable def Ae:List S:=[.ite (.sm .ends (.slc (.attr (.loc 0) 0) (.attr (.loc 0) 3) (.attr (.loc 0) 1)) (.loc 1)) [.augA (.loc 0) 1 .sub (.bi .len [.loc 1]),
 .ret (.bool true)] [],
 .ret (.bool false)]
noncomputable def r6:List Str:=["self","v","i","j","c","l","common_i","common_j","first_key_inspected","k","diff","common","w","i2"]
noncomputable def r7:List S:=[.set 2 (.int 0),
 .set 3 (.bi .len [.loc 1]),
 .set 4 (.attr (.loc 0) 1),
 .set 5 (.attr (.loc 0) 2),
 .set 6 (.int 0),
 .set 7 (.int 0),
 .set 8 (.bool false),
 .whl (.bool true) [.set 9 (.bin .add (.loc 2) (.bin .shr (.bin .sub (.loc 3) (.loc 2)) (.int 1))),
  .set 10 (.int 0),
  .set 11 (.bi .min2 [.loc 6,.loc 7]),
  .set 12 (.idx (.loc 1) (.loc 9)),
  .for1 13 (.rng [.loc 11,.bi .len [.attr (.loc 12) 9]]) [.ite (.cmp .eq (.bin .add (.loc 4) (.loc 11)) (.loc 5)) [.set 10 (.neg (.int 1)),
   .brk] [],
   .set 10 (.bin .sub (.bi .ord [.idx (.attr (.loc 0) 0) (.bin .add (.loc 4) (.loc 11))]) (.bi .ord [.idx (.attr (.loc 12) 9) (.loc 13)])),
   .ite (.cmp .ne (.loc 10) (.int 0)) [.brk] [],
   .aug 11 .add (.int 1)],
  .ite (.cmp .lt (.loc 10) (.int 0)) [.set 3 (.loc 9),
   .set 7 (.loc 11)] [.set 2 (.loc 9),
   .set 6 (.loc 11)],
  .ite (.cmp .le (.bin .sub (.loc 3) (.loc 2)) (.int 1)) [.ite (.cmp .gt (.loc 2) (.int 0)) [.brk] [],
   .ite (.cmp .eq (.loc 3) (.loc 2)) [.brk] [],
   .ite (.loc 8) [.brk] [],
   .set 8 (.bool true)] []],
 .whl (.bool true) [.set 12 (.idx (.loc 1) (.loc 2)),
  .ite (.cmp .ge (.loc 6) (.bi .len [.attr (.loc 12) 9])) [.setA (.loc 0) 1 (.bin .add (.loc 4) (.bi .len [.attr (.loc 12) 9])),
   .ret (.attr (.loc 12) 11)] [],
  .set 2 (.attr (.loc 12) 10),
  .ite (.cmp .lt (.loc 2) (.int 0)) [.ret (.int 0)] []],
 .ret (.neg (.int 1))]
noncomputable def pq:List Str:=["self","v","i","j","c","lb","common_i","common_j","first_key_inspected","k","diff","common","w","i2"]
noncomputable def pr:List S:=[.set 2 (.int 0),
 .set 3 (.bi .len [.loc 1]),
 .set 4 (.attr (.loc 0) 1),
 .set 5 (.attr (.loc 0) 3),
 .set 6 (.int 0),
 .set 7 (.int 0),
 .set 8 (.bool false),
 .whl (.bool true) [.set 9 (.bin .add (.loc 2) (.bin .shr (.bin .sub (.loc 3) (.loc 2)) (.int 1))),
  .set 10 (.int 0),
  .set 11 (.bi .min2 [.loc 6,.loc 7]),
  .set 12 (.idx (.loc 1) (.loc 9)),
  .for1 13 (.rng [.bin .sub (.bin .sub (.bi .len [.attr (.loc 12) 9]) (.int 1)) (.loc 11),.neg (.int 1),.neg (.int 1)]) [.ite (.cmp .eq (.bin .sub (.loc 4) (.loc 11)) (.loc 5)) [.set 10 (.neg (.int 1)),
   .brk] [],
   .set 10 (.bin .sub (.bi .ord [.idx (.attr (.loc 0) 0) (.bin .sub (.bin .sub (.loc 4) (.int 1)) (.loc 11))]) (.bi .ord [.idx (.attr (.loc 12) 9) (.loc 13)])),
   .ite (.cmp .ne (.loc 10) (.int 0)) [.brk] [],
   .aug 11 .add (.int 1)],
  .ite (.cmp .lt (.loc 10) (.int 0)) [.set 3 (.loc 9),
   .set 7 (.loc 11)] [.set 2 (.loc 9),
   .set 6 (.loc 11)],
  .ite (.cmp .le (.bin .sub (.loc 3) (.loc 2)) (.int 1)) [.ite (.cmp .gt (.loc 2) (.int 0)) [.brk] [],
   .ite (.cmp .eq (.loc 3) (.loc 2)) [.brk] [],
   .ite (.loc 8) [.brk] [],
   .set 8 (.bool true)] []],
 .whl (.bool true) [.set 12 (.idx (.loc 1) (.loc 2)),
  .ite (.cmp .ge (.loc 6) (.bi .len [.attr (.loc 12) 9])) [.setA (.loc 0) 1 (.bin .sub (.loc 4) (.bi .len [.attr (.loc 12) 9])),
   .ret (.attr (.loc 12) 11)] [],
  .set 2 (.attr (.loc 12) 10),
  .ite (.cmp .lt (.loc 2) (.int 0)) [.ret (.int 0)] []],
 .ret (.neg (.int 1))]
noncomputable def tX:List Str:=["self","c_bra","c_ket","s","adjustment"]
noncomputable def tY:List S:=[.set 4 (.bin .sub (.bi .len [.loc 3]) (.bin .sub (.loc 2) (.loc 1))),
 .setA (.loc 0) 0 (.bin .add (.bin .add (.slc (.attr (.loc 0) 0) (.int 0) (.loc 1)) (.loc 3)) (.slc (.attr (.loc 0) 0) (.loc 2) .non)),
 .augA (.loc 0) 2 .add (.loc 4),
 .ite (.cmp .ge (.attr (.loc 0) 1) (.loc 2)) [.augA (.loc 0) 1 .add (.loc 4)] [.ite (.cmp .gt (.attr (.loc 0) 1) (.loc 1)) [.setA (.loc 0) 1 (.loc 1)] []],
 .ret (.loc 4)]
noncomputable def r8:List Str:=["self","s"]
noncomputable def r9:List S:=[.asrt (.cmp .ge (.attr (.loc 0) 4) (.int 0)),
 .asrt (.cmp .le (.attr (.loc 0) 4) (.attr (.loc 0) 5)),
 .asrt (.cmp .le (.attr (.loc 0) 5) (.attr (.loc 0) 2)),
 .asrt (.cmp .le (.attr (.loc 0) 2) (.bi .len [.attr (.loc 0) 0])),
 .expr (.meth (.loc 0) 23 [.attr (.loc 0) 4,.attr (.loc 0) 5,.loc 1]),
 .setA (.loc 0) 5 (.bin .add (.attr (.loc 0) 4) (.bi .len [.loc 1]))]
noncomputable def tZ:List Str:=["self"]
noncomputable def t7:List S:=[.ret (.meth (.loc 0) 24 [.str []])]
noncomputable def wB:List Str:=["self","word"]
noncomputable def wC:List S:=[.expr (.meth (.loc 0) 12 [.loc 1]),
 .expr (.meth (.loc 0) 41 []),
 .ret (.meth (.loc 0) 13 [])]
noncomputable def t8:List Str:=["self","v_1","v_2","v_3","v_4","v_5"]
noncomputable def t9:List S:=[.setA (.loc 0) 6 (.bool false),
 .set 1 (.attr (.loc 0) 1),
 .try1 [.setA (.loc 0) 4 (.attr (.loc 0) 1),
  .ite (.disj [.cmp .eq (.attr (.loc 0) 1) (.attr (.loc 0) 2),.cmp .ne (.idx (.attr (.loc 0) 0) (.attr (.loc 0) 1)) (.str [39])]) [.raise 0] [],
  .augA (.loc 0) 1 .add (.int 1),
  .setA (.loc 0) 5 (.attr (.loc 0) 1),
  .expr (.meth (.loc 0) 25 [])] 0,
 .setA (.loc 0) 1 (.loc 1),
 .set 2 (.attr (.loc 0) 1),
 .try1 [.setA (.loc 0) 4 (.attr (.loc 0) 1),
  .ite (.disj [.cmp .eq (.attr (.loc 0) 1) (.attr (.loc 0) 2),.cmp .ne (.idx (.attr (.loc 0) 0) (.attr (.loc 0) 1)) (.str [121])]) [.raise 0] [],
  .augA (.loc 0) 1 .add (.int 1),
  .setA (.loc 0) 5 (.attr (.loc 0) 1),
  .expr (.meth (.loc 0) 24 [.str [89]]),
  .setA (.loc 0) 6 (.bool true)] 0,
 .setA (.loc 0) 1 (.loc 2),
 .set 3 (.attr (.loc 0) 1),
 .try1 [.whl (.bool true) [.set 4 (.attr (.loc 0) 1),
  .try1 [.whl (.bool true) [.set 5 (.attr (.loc 0) 1),
   .try1 [.ite (.not (.meth (.loc 0) 14 [.cat 1])) [.raise 2] [],
    .setA (.loc 0) 4 (.attr (.loc 0) 1),
    .ite (.disj [.cmp .eq (.attr (.loc 0) 1) (.attr (.loc 0) 2),.cmp .ne (.idx (.attr (.loc 0) 0) (.attr (.loc 0) 1)) (.str [121])]) [.raise 2] [],
    .augA (.loc 0) 1 .add (.int 1),
    .setA (.loc 0) 5 (.attr (.loc 0) 1),
    .setA (.loc 0) 1 (.loc 5),
    .brk] 2,
   .setA (.loc 0) 1 (.loc 5),
   .ite (.cmp .ge (.attr (.loc 0) 1) (.attr (.loc 0) 2)) [.raise 1] [],
   .augA (.loc 0) 1 .add (.int 1)],
   .expr (.meth (.loc 0) 24 [.str [89]]),
   .setA (.loc 0) 6 (.bool true),
   .cont] 1,
  .setA (.loc 0) 1 (.loc 4),
  .brk]] 0,
 .setA (.loc 0) 1 (.loc 3),
 .ret (.bool true)]
noncomputable def my:List Str:=["self","v_1","v_2"]
noncomputable def mz:List S:=[.setA (.loc 0) 7 (.attr (.loc 0) 2),
 .setA (.loc 0) 8 (.attr (.loc 0) 2),
 .set 1 (.attr (.loc 0) 1),
 .try1 [.whl (.bool true) [.set 2 (.attr (.loc 0) 1),
  .try1 [.ite (.cmp .eq (.meth (.loc 0) 21 [.cat 4]) (.int 0)) [.raise 1] [],
   .brk] 1,
  .setA (.loc 0) 1 (.loc 2),
  .ite (.not (.meth (.loc 0) 17 [.cat 1])) [.raise 0] [],
  .augA (.loc 0) 1 .add (.int 1),
  .ite (.not (.meth (.loc 0) 15 [.cat 1])) [.raise 0] [],
  .augA (.loc 0) 1 .add (.int 1),
  .brk],
  .setA (.loc 0) 7 (.attr (.loc 0) 1),
  .ite (.not (.meth (.loc 0) 17 [.cat 1])) [.raise 0] [],
  .augA (.loc 0) 1 .add (.int 1),
  .ite (.not (.meth (.loc 0) 15 [.cat 1])) [.raise 0] [],
  .augA (.loc 0) 1 .add (.int 1),
  .setA (.loc 0) 8 (.attr (.loc 0) 1)] 0,
 .setA (.loc 0) 1 (.loc 1),
 .ret (.bool true)]
noncomputable def wD:List Str:=["self","v_1"]
noncomputable def wE:List S:=[.whl (.bool true) [.set 1 (.bin .sub (.attr (.loc 0) 2) (.attr (.loc 0) 1)),
 .try1 [.ite (.not (.meth (.loc 0) 18 [.cat 2])) [.raise 0] [],
  .ite (.not (.meth (.loc 0) 16 [.cat 1])) [.raise 0] [],
  .ite (.not (.meth (.loc 0) 18 [.cat 1])) [.raise 0] [],
  .brk] 0,
 .setA (.loc 0) 1 (.bin .sub (.attr (.loc 0) 2) (.loc 1)),
 .try1 [.ite (.not (.meth (.loc 0) 18 [.cat 1])) [.raise 0] [],
  .ite (.not (.meth (.loc 0) 16 [.cat 1])) [.raise 0] [],
  .ite (.cmp .gt (.attr (.loc 0) 1) (.attr (.loc 0) 3)) [.raise 0] [],
  .brk] 0,
 .setA (.loc 0) 1 (.bin .sub (.attr (.loc 0) 2) (.loc 1)),
 .ite (.not (.meth (.loc 0) 20 [.str [112,97,115,116]])) [.ret (.bool false)] [],
 .brk],
 .ret (.bool true)]
noncomputable def Em:List Str:=["self"]
noncomputable def En:List S:=[.ret (.cmp .le (.attr (.loc 0) 7) (.attr (.loc 0) 1))]
noncomputable def Eo:List Str:=["self"]
noncomputable def Ep:List S:=[.ret (.cmp .le (.attr (.loc 0) 8) (.attr (.loc 0) 1))]
noncomputable def uc:List Str:=["self","v_1","among_var","v_2"]
noncomputable def f9:List S:=[.set 1 (.bin .sub (.attr (.loc 0) 2) (.attr (.loc 0) 1)),
 .try1 [.setA (.loc 0) 5 (.attr (.loc 0) 1),
  .ite (.cmp .eq (.meth (.loc 0) 22 [.cat 5]) (.int 0)) [.setA (.loc 0) 1 (.bin .sub (.attr (.loc 0) 2) (.loc 1)),
   .raise 0] [],
  .setA (.loc 0) 4 (.attr (.loc 0) 1),
  .expr (.meth (.loc 0) 25 [])] 0,
 .setA (.loc 0) 5 (.attr (.loc 0) 1),
 .set 2 (.meth (.loc 0) 22 [.cat 6]),
 .ite (.cmp .eq (.loc 2) (.int 0)) [.ret (.bool false)] [],
 .setA (.loc 0) 4 (.attr (.loc 0) 1),
 .ite (.cmp .eq (.loc 2) (.int 1)) [.expr (.meth (.loc 0) 24 [.str [115,115]])] [.ite (.cmp .eq (.loc 2) (.int 2)) [.whl (.bool true) [.set 3 (.bin .sub (.attr (.loc 0) 2) (.attr (.loc 0) 1)),
  .try1 [.ite (.cmp .lt (.bin .sub (.attr (.loc 0) 1) (.int 2)) (.attr (.loc 0) 3)) [.raise 0] [],
   .augA (.loc 0) 1 .sub (.int 2),
   .expr (.meth (.loc 0) 24 [.str [105]]),
   .brk] 0,
  .setA (.loc 0) 1 (.bin .sub (.attr (.loc 0) 2) (.loc 3)),
  .expr (.meth (.loc 0) 24 [.str [105,101]]),
  .brk]] [.ite (.cmp .eq (.loc 2) (.int 3)) [.ite (.cmp .le (.attr (.loc 0) 1) (.attr (.loc 0) 3)) [.ret (.bool false)] [],
  .augA (.loc 0) 1 .sub (.int 1),
  .ite (.not (.meth (.loc 0) 19 [.cat 1])) [.ret (.bool false)] [],
  .augA (.loc 0) 1 .sub (.int 1),
  .expr (.meth (.loc 0) 25 [])] []]],
 .ret (.bool true)]
noncomputable def ud:List Str:=["self","among_var","v_1","v_5","v_6","v_2","v_7","v_8","v_3","v_4"]
noncomputable def ue:List S:=[.setA (.loc 0) 5 (.attr (.loc 0) 1),
 .set 1 (.meth (.loc 0) 22 [.cat 9]),
 .setA (.loc 0) 4 (.attr (.loc 0) 1),
 .whl (.bool true) [.set 2 (.bin .sub (.attr (.loc 0) 2) (.attr (.loc 0) 1)),
  .try1 [.ite (.cmp .eq (.loc 1) (.int 1)) [.set 5 (.bin .sub (.attr (.loc 0) 2) (.attr (.loc 0) 1)),
   .try1 [.ite (.not (.meth (.loc 0) 30 [])) [.raise 1] [],
    .whl (.bool true) [.set 8 (.bin .sub (.attr (.loc 0) 2) (.attr (.loc 0) 1)),
     .try1 [.ite (.cmp .eq (.meth (.loc 0) 22 [.cat 7]) (.int 0)) [.raise 2] [],
      .ite (.cmp .gt (.attr (.loc 0) 1) (.attr (.loc 0) 3)) [.raise 2] [],
      .brk] 2,
     .setA (.loc 0) 1 (.bin .sub (.attr (.loc 0) 2) (.loc 8)),
     .expr (.meth (.loc 0) 24 [.str [101,101]]),
     .brk]] 1,
   .setA (.loc 0) 1 (.bin .sub (.attr (.loc 0) 2) (.loc 5))] [.ite (.cmp .eq (.loc 1) (.int 2)) [.raise 0] [.ite (.cmp .eq (.loc 1) (.int 3)) [.set 1 (.meth (.loc 0) 22 [.cat 8]),
    .ite (.cmp .eq (.loc 1) (.int 0)) [.raise 0] [],
    .ite (.cmp .eq (.loc 1) (.int 1)) [.set 9 (.bin .sub (.attr (.loc 0) 2) (.attr (.loc 0) 1)),
     .ite (.not (.meth (.loc 0) 18 [.cat 1])) [.raise 0] [],
     .ite (.cmp .gt (.attr (.loc 0) 1) (.attr (.loc 0) 3)) [.raise 0] [],
     .setA (.loc 0) 1 (.bin .sub (.attr (.loc 0) 2) (.loc 9)),
     .setA (.loc 0) 4 (.attr (.loc 0) 1),
     .expr (.meth (.loc 0) 24 [.str [105,101]])] [.ite (.cmp .gt (.attr (.loc 0) 1) (.attr (.loc 0) 3)) [.raise 0] []]] []]],
   .brk] 0,
  .setA (.loc 0) 1 (.bin .sub (.attr (.loc 0) 2) (.loc 2)),
  .set 3 (.bin .sub (.attr (.loc 0) 2) (.attr (.loc 0) 1)),
  .ite (.not (.meth (.loc 0) 19 [.cat 1])) [.ret (.bool false)] [],
  .augA (.loc 0) 1 .sub (.int 1),
  .setA (.loc 0) 1 (.bin .sub (.attr (.loc 0) 2) (.loc 3)),
  .expr (.meth (.loc 0) 25 []),
  .setA (.loc 0) 5 (.attr (.loc 0) 1),
  .setA (.loc 0) 4 (.attr (.loc 0) 1),
  .set 4 (.bin .sub (.attr (.loc 0) 2) (.attr (.loc 0) 1)),
  .set 1 (.meth (.loc 0) 22 [.cat 10]),
  .ite (.cmp .eq (.loc 1) (.int 1)) [.expr (.meth (.loc 0) 24 [.str [101]]),
   .ret (.bool false)] [.ite (.cmp .eq (.loc 1) (.int 2)) [.set 6 (.bin .sub (.attr (.loc 0) 2) (.attr (.loc 0) 1)),
    .try1 [.ite (.not (.meth (.loc 0) 16 [.cat 0])) [.raise 0] [],
     .ite (.cmp .gt (.attr (.loc 0) 1) (.attr (.loc 0) 3)) [.raise 0] [],
     .ret (.bool false)] 0,
    .setA (.loc 0) 1 (.bin .sub (.attr (.loc 0) 2) (.loc 6))] [.ite (.cmp .ne (.attr (.loc 0) 1) (.attr (.loc 0) 7)) [.ret (.bool false)] [],
    .set 7 (.bin .sub (.attr (.loc 0) 2) (.attr (.loc 0) 1)),
    .ite (.not (.meth (.loc 0) 29 [])) [.ret (.bool false)] [],
    .setA (.loc 0) 1 (.bin .sub (.attr (.loc 0) 2) (.loc 7)),
    .expr (.meth (.loc 0) 24 [.str [101]]),
    .ret (.bool false)]],
  .setA (.loc 0) 1 (.bin .sub (.attr (.loc 0) 2) (.loc 4)),
  .setA (.loc 0) 5 (.attr (.loc 0) 1),
  .ite (.cmp .le (.attr (.loc 0) 1) (.attr (.loc 0) 3)) [.ret (.bool false)] [],
  .augA (.loc 0) 1 .sub (.int 1),
  .setA (.loc 0) 4 (.attr (.loc 0) 1),
  .expr (.meth (.loc 0) 25 []),
  .brk],
 .ret (.bool true)]
noncomputable def uf:List Str:=["self"]
noncomputable def ug:List S:=[.setA (.loc 0) 5 (.attr (.loc 0) 1),
 .whl (.bool true) [.try1 [.ite (.disj [.cmp .le (.attr (.loc 0) 1) (.attr (.loc 0) 3),.cmp .ne (.idx (.attr (.loc 0) 0) (.bin .sub (.attr (.loc 0) 1) (.int 1))) (.str [121])]) [.raise 0] [],
  .augA (.loc 0) 1 .sub (.int 1),
  .brk] 0,
  .ite (.disj [.cmp .le (.attr (.loc 0) 1) (.attr (.loc 0) 3),.cmp .ne (.idx (.attr (.loc 0) 0) (.bin .sub (.attr (.loc 0) 1) (.int 1))) (.str [89])]) [.ret (.bool false)] [],
  .augA (.loc 0) 1 .sub (.int 1),
  .brk],
 .setA (.loc 0) 4 (.attr (.loc 0) 1),
 .ite (.not (.meth (.loc 0) 18 [.cat 1])) [.ret (.bool false)] [],
 .ite (.cmp .le (.attr (.loc 0) 1) (.attr (.loc 0) 3)) [.ret (.bool false)] [],
 .expr (.meth (.loc 0) 24 [.str [105]]),
 .ret (.bool true)]
noncomputable def wF:List Str:=["self","among_var"]
noncomputable def wG:List S:=[.setA (.loc 0) 5 (.attr (.loc 0) 1),
 .set 1 (.meth (.loc 0) 22 [.cat 11]),
 .ite (.cmp .eq (.loc 1) (.int 0)) [.ret (.bool false)] [],
 .setA (.loc 0) 4 (.attr (.loc 0) 1),
 .ite (.not (.meth (.loc 0) 30 [])) [.ret (.bool false)] [],
 .ite (.cmp .eq (.loc 1) (.int 1)) [.expr (.meth (.loc 0) 24 [.str [116,105,111,110]])] [.ite (.cmp .eq (.loc 1) (.int 2)) [.expr (.meth (.loc 0) 24 [.str [101,110,99,101]])] [.ite (.cmp .eq (.loc 1) (.int 3)) [.expr (.meth (.loc 0) 24 [.str [97,110,99,101]])] [.ite (.cmp .eq (.loc 1) (.int 4)) [.expr (.meth (.loc 0) 24 [.str [97,98,108,101]])] [.ite (.cmp .eq (.loc 1) (.int 5)) [.expr (.meth (.loc 0) 24 [.str [101,110,116]])] [.ite (.cmp .eq (.loc 1) (.int 6)) [.expr (.meth (.loc 0) 24 [.str [105,122,101]])] [.ite (.cmp .eq (.loc 1) (.int 7)) [.expr (.meth (.loc 0) 24 [.str [97,116,101]])] [.ite (.cmp .eq (.loc 1) (.int 8)) [.expr (.meth (.loc 0) 24 [.str [97,108]])] [.ite (.cmp .eq (.loc 1) (.int 9)) [.expr (.meth (.loc 0) 24 [.str [102,117,108]])] [.ite (.cmp .eq (.loc 1) (.int 10)) [.expr (.meth (.loc 0) 24 [.str [111,117,115]])] [.ite (.cmp .eq (.loc 1) (.int 11)) [.expr (.meth (.loc 0) 24 [.str [105,118,101]])] [.ite (.cmp .eq (.loc 1) (.int 12)) [.expr (.meth (.loc 0) 24 [.str [98,108,101]])] [.ite (.cmp .eq (.loc 1) (.int 13)) [.expr (.meth (.loc 0) 24 [.str [111,103]])] [.ite (.cmp .eq (.loc 1) (.int 14)) [.ite (.disj [.cmp .le (.attr (.loc 0) 1) (.attr (.loc 0) 3),.cmp .ne (.idx (.attr (.loc 0) 0) (.bin .sub (.attr (.loc 0) 1) (.int 1))) (.str [108])]) [.ret (.bool false)] [],
  .augA (.loc 0) 1 .sub (.int 1),
  .expr (.meth (.loc 0) 24 [.str [111,103]])] [.ite (.cmp .eq (.loc 1) (.int 15)) [.expr (.meth (.loc 0) 24 [.str [108,101,115,115]])] [.ite (.not (.meth (.loc 0) 16 [.cat 3])) [.ret (.bool false)] [],
   .expr (.meth (.loc 0) 25 [])]]]]]]]]]]]]]]],
 .ret (.bool true)]
noncomputable def wH:List Str:=["self","among_var"]
noncomputable def wI:List S:=[.setA (.loc 0) 5 (.attr (.loc 0) 1),
 .set 1 (.meth (.loc 0) 22 [.cat 12]),
 .ite (.cmp .eq (.loc 1) (.int 0)) [.ret (.bool false)] [],
 .setA (.loc 0) 4 (.attr (.loc 0) 1),
 .ite (.not (.meth (.loc 0) 30 [])) [.ret (.bool false)] [],
 .ite (.cmp .eq (.loc 1) (.int 1)) [.expr (.meth (.loc 0) 24 [.str [116,105,111,110]])] [.ite (.cmp .eq (.loc 1) (.int 2)) [.expr (.meth (.loc 0) 24 [.str [97,116,101]])] [.ite (.cmp .eq (.loc 1) (.int 3)) [.expr (.meth (.loc 0) 24 [.str [97,108]])] [.ite (.cmp .eq (.loc 1) (.int 4)) [.expr (.meth (.loc 0) 24 [.str [105,99]])] [.ite (.cmp .eq (.loc 1) (.int 5)) [.expr (.meth (.loc 0) 25 [])] [.ite (.not (.meth (.loc 0) 31 [])) [.ret (.bool false)] [],
  .expr (.meth (.loc 0) 25 [])]]]]],
 .ret (.bool true)]
noncomputable def wJ:List Str:=["self","among_var"]
noncomputable def wK:List S:=[.setA (.loc 0) 5 (.attr (.loc 0) 1),
 .set 1 (.meth (.loc 0) 22 [.cat 13]),
 .ite (.cmp .eq (.loc 1) (.int 0)) [.ret (.bool false)] [],
 .setA (.loc 0) 4 (.attr (.loc 0) 1),
 .ite (.not (.meth (.loc 0) 31 [])) [.ret (.bool false)] [],
 .ite (.cmp .eq (.loc 1) (.int 1)) [.expr (.meth (.loc 0) 25 [])] [.whl (.bool true) [.try1 [.ite (.disj [.cmp .le (.attr (.loc 0) 1) (.attr (.loc 0) 3),.cmp .ne (.idx (.attr (.loc 0) 0) (.bin .sub (.attr (.loc 0) 1) (.int 1))) (.str [115])]) [.raise 0] [],
  .augA (.loc 0) 1 .sub (.int 1),
  .brk] 0,
  .ite (.disj [.cmp .le (.attr (.loc 0) 1) (.attr (.loc 0) 3),.cmp .ne (.idx (.attr (.loc 0) 0) (.bin .sub (.attr (.loc 0) 1) (.int 1))) (.str [116])]) [.ret (.bool false)] [],
  .augA (.loc 0) 1 .sub (.int 1),
  .brk],
  .expr (.meth (.loc 0) 25 [])],
 .ret (.bool true)]
noncomputable def wL:List Str:=["self","among_var","v_1"]
noncomputable def jG:List S:=[.setA (.loc 0) 5 (.attr (.loc 0) 1),
 .set 1 (.meth (.loc 0) 22 [.cat 14]),
 .ite (.cmp .eq (.loc 1) (.int 0)) [.ret (.bool false)] [],
 .setA (.loc 0) 4 (.attr (.loc 0) 1),
 .ite (.cmp .eq (.loc 1) (.int 1)) [.whl (.bool true) [.try1 [.ite (.not (.meth (.loc 0) 31 [])) [.raise 0] [],
  .brk] 0,
  .ite (.not (.meth (.loc 0) 30 [])) [.ret (.bool false)] [],
  .set 2 (.bin .sub (.attr (.loc 0) 2) (.attr (.loc 0) 1)),
  .try1 [.ite (.not (.meth (.loc 0) 29 [])) [.raise 0] [],
   .ret (.bool false)] 0,
  .setA (.loc 0) 1 (.bin .sub (.attr (.loc 0) 2) (.loc 2)),
  .brk],
  .expr (.meth (.loc 0) 25 [])] [.ite (.not (.meth (.loc 0) 31 [])) [.ret (.bool false)] [],
  .ite (.disj [.cmp .le (.attr (.loc 0) 1) (.attr (.loc 0) 3),.cmp .ne (.idx (.attr (.loc 0) 0) (.bin .sub (.attr (.loc 0) 1) (.int 1))) (.str [108])]) [.ret (.bool false)] [],
  .augA (.loc 0) 1 .sub (.int 1),
  .expr (.meth (.loc 0) 25 [])],
 .ret (.bool true)]
noncomputable def pt:List Str:=["self","among_var"]
noncomputable def pv:List S:=[.setA (.loc 0) 4 (.attr (.loc 0) 1),
 .set 1 (.meth (.loc 0) 21 [.cat 15]),
 .ite (.cmp .eq (.loc 1) (.int 0)) [.ret (.bool false)] [],
 .setA (.loc 0) 5 (.attr (.loc 0) 1),
 .ite (.cmp .lt (.attr (.loc 0) 1) (.attr (.loc 0) 2)) [.ret (.bool false)] [],
 .ite (.cmp .gt (.loc 1) (.int 0)) [.expr (.meth (.loc 0) 24 [.idx (.cat 16) (.bin .sub (.loc 1) (.int 1))])] [],
 .ret (.bool true)]
noncomputable def sb:List Str:=["self","v_1","v_2"]
noncomputable def sd:List S:=[.ite (.not (.attr (.loc 0) 6)) [.ret (.bool false)] [],
 .whl (.bool true) [.set 1 (.attr (.loc 0) 1),
  .try1 [.whl (.bool true) [.set 2 (.attr (.loc 0) 1),
   .try1 [.setA (.loc 0) 4 (.attr (.loc 0) 1),
    .ite (.disj [.cmp .eq (.attr (.loc 0) 1) (.attr (.loc 0) 2),.cmp .ne (.idx (.attr (.loc 0) 0) (.attr (.loc 0) 1)) (.str [89])]) [.raise 1] [],
    .augA (.loc 0) 1 .add (.int 1),
    .setA (.loc 0) 5 (.attr (.loc 0) 1),
    .setA (.loc 0) 1 (.loc 2),
    .brk] 1,
   .setA (.loc 0) 1 (.loc 2),
   .ite (.cmp .ge (.attr (.loc 0) 1) (.attr (.loc 0) 2)) [.raise 0] [],
   .augA (.loc 0) 1 .add (.int 1)],
   .expr (.meth (.loc 0) 24 [.str [121]]),
   .cont] 0,
  .setA (.loc 0) 1 (.loc 1),
  .brk],
 .ret (.bool true)]
noncomputable def Er:List Str:=["self","v_1","v_2","v_3","v_4","v_5","v_6","v_7","v_8","v_9"]
noncomputable def Es:List S:=[.whl (.bool true) [.set 1 (.attr (.loc 0) 1),
 .try1 [.ite (.not (.meth (.loc 0) 39 [])) [.raise 0] [],
  .brk] 0,
 .setA (.loc 0) 1 (.loc 1),
 .try1 [.try1 [.ite (.cmp .gt (.bin .add (.attr (.loc 0) 1) (.int 3)) (.attr (.loc 0) 2)) [.raise 1] [],
  .augA (.loc 0) 1 .add (.int 3),
  .raise 0] 1,
  .brk] 0,
 .setA (.loc 0) 1 (.loc 1),
 .expr (.meth (.loc 0) 27 []),
 .expr (.meth (.loc 0) 28 []),
 .setA (.loc 0) 3 (.attr (.loc 0) 1),
 .setA (.loc 0) 1 (.attr (.loc 0) 2),
 .set 2 (.bin .sub (.attr (.loc 0) 2) (.attr (.loc 0) 1)),
 .expr (.meth (.loc 0) 32 []),
 .setA (.loc 0) 1 (.bin .sub (.attr (.loc 0) 2) (.loc 2)),
 .set 3 (.bin .sub (.attr (.loc 0) 2) (.attr (.loc 0) 1)),
 .expr (.meth (.loc 0) 33 []),
 .setA (.loc 0) 1 (.bin .sub (.attr (.loc 0) 2) (.loc 3)),
 .set 4 (.bin .sub (.attr (.loc 0) 2) (.attr (.loc 0) 1)),
 .expr (.meth (.loc 0) 34 []),
 .setA (.loc 0) 1 (.bin .sub (.attr (.loc 0) 2) (.loc 4)),
 .set 5 (.bin .sub (.attr (.loc 0) 2) (.attr (.loc 0) 1)),
 .expr (.meth (.loc 0) 35 []),
 .setA (.loc 0) 1 (.bin .sub (.attr (.loc 0) 2) (.loc 5)),
 .set 6 (.bin .sub (.attr (.loc 0) 2) (.attr (.loc 0) 1)),
 .expr (.meth (.loc 0) 36 []),
 .setA (.loc 0) 1 (.bin .sub (.attr (.loc 0) 2) (.loc 6)),
 .set 7 (.bin .sub (.attr (.loc 0) 2) (.attr (.loc 0) 1)),
 .expr (.meth (.loc 0) 37 []),
 .setA (.loc 0) 1 (.bin .sub (.attr (.loc 0) 2) (.loc 7)),
 .set 8 (.bin .sub (.attr (.loc 0) 2) (.attr (.loc 0) 1)),
 .expr (.meth (.loc 0) 38 []),
 .setA (.loc 0) 1 (.bin .sub (.attr (.loc 0) 2) (.loc 8)),
 .setA (.loc 0) 1 (.attr (.loc 0) 3),
 .set 9 (.attr (.loc 0) 1),
 .expr (.meth (.loc 0) 40 []),
 .setA (.loc 0) 1 (.loc 9),
 .brk],
 .ret (.bool true)]
noncomputable def uh:List Str:=[]
noncomputable def ui:List S:=[.ret (.lst [.str [97],.str [98],.str [99],.str [100],.str [101],.str [102],.str [103],.str [104],.str [105],.str [106],.str [107],.str [108],.str [109],.str [110],.str [111],.str [112],.str [113],.str [114],.str [115],.str [116],.str [117],.str [118],.str [119],.str [120],.str [121],.str [122],.str [39],.str [89],.str [39,115],.str [39,115,39],.str [115,115,101,115],.str [105,101,100],.str [105,101,115],.str [117,115],.str [115,115],.str [101,101,100],.str [101,101,100,108,121],.str [101,100],.str [101,100,108,121],.str [105,110,103],.str [105,110,103,108,121],.str [97,116],.str [98,108],.str [105,122],.str [98,98],.str [100,100],.str [102,102],.str [103,103],.str [109,109],.str [110,110],.str [112,112],.str [114,114],.str [116,116],.str [97,110,99,105],.str [101,110,99,105],.str [111,103,105],.str [108,105],.str [98,108,105],.str [97,98,108,105],.str [97,108,108,105],.str [102,117,108,108,105],.str [108,101,115,115,108,105],.str [111,117,115,108,105],.str [101,110,116,108,105],.str [97,108,105,116,105],.str [98,105,108,105,116,105],.str [105,118,105,116,105],.str [116,105,111,110,97,108],.str [97,116,105,111,110,97,108],.str [97,108,105,115,109],.str [97,116,105,111,110],.str [105,122,97,116,105,111,110],.str [105,122,101,114],.str [97,116,111,114],.str [105,118,101,110,101,115,115],.str [102,117,108,110,101,115,115],.str [111,117,115,110,101,115,115],.str [111,103,105,115,116],.str [105,99,97,116,101],.str [97,116,105,118,101],.str [97,108,105,122,101],.str [105,99,105,116,105],.str [105,99,97,108],.str [102,117,108],.str [110,101,115,115],.str [105,99],.str [97,110,99,101],.str [101,110,99,101],.str [97,98,108,101],.str [105,98,108,101],.str [97,116,101],.str [105,118,101],.str [105,122,101],.str [105,116,105],.str [97,108],.str [105,115,109],.str [105,111,110],.str [101,114],.str [111,117,115],.str [97,110,116],.str [101,110,116],.str [109,101,110,116],.str [101,109,101,110,116],.str [97,114,115,101,110],.str [99,111,109,109,117,110],.str [101,109,101,114,103],.str [103,101,110,101,114],.str [105,110,116,101,114],.str [108,97,116,101,114],.str [111,114,103,97,110],.str [112,97,115,116],.str [117,110,105,118,101,114,115],.str [101,118,101,110],.str [99,97,110,110],.str [105,110,110],.str [101,97,114,114],.str [104,101,114,114],.str [111,117,116],.str [115,117,99,99],.str [112,114,111,99],.str [101,120,99],.str [97,110,100,101,115],.str [97,116,108,97,115],.str [98,105,97,115],.str [99,111,115,109,111,115],.str [101,97,114,108,121],.str [103,101,110,116,108,121],.str [104,111,119,101],.str [105,100,108,121],.str [110,101,119,115],.str [111,110,108,121],.str [115,105,110,103,108,121],.str [115,107,105,101,115],.str [115,107,105,115],.str [115,107,121],.str [117,103,108,121]])]
noncomputable def uj:List Str:=[]
noncomputable def uk:List S:=[.ret (.lst [.str [115,101],.str [100,101],.str [121,101],.str [108,121],.str [101,115],.str [101,100]])]
noncomputable def wM:List Str:=[]
noncomputable def wN:List S:=[.ret (.lst [.str [97,110,100,101,115],.str [97,116,108,97,115],.str [98,105,97,115],.str [99,111,115,109,111,115],.str [104,111,119,101],.str [110,101,119,115],.str [115,107,121]])]
noncomputable def qA:List Str:=[]
noncomputable def qB:List S:=[.ret (.lst [.str [101,97,114,108,121],.str [103,101,110,116,108,121],.str [105,100,108,121],.str [111,110,108,121],.str [115,105,110,103,108,121],.str [115,107,105,101,115],.str [115,107,105,115],.str [117,103,108,121]])]
noncomputable def sf:List Str:=[]
noncomputable def sg:List S:=[.ret (.lst [.str [97,114,115,101,110],.str [99,111,109,109,117,110],.str [101,109,101,114,103],.str [103,101,110,101,114],.str [105,110,116,101,114],.str [108,97,116,101,114],.str [111,114,103,97,110],.str [112,97,115,116],.str [117,110,105,118,101,114,115]])]
noncomputable def um:List Str:=["sign"]
noncomputable def un:List S:=[.ret (.cmp .isin (.loc 0) (.lst [.str [97],.str [101],.str [105],.str [111],.str [117],.str [121]]))]
noncomputable def uo:List Str:=["text","sign"]
noncomputable def uq:List S:=[.ret (.sm .join (.str []) (.comp (.ife (.call 5 [.loc 1]) (.str [118]) (.str [99])) 1 (.loc 0)))]
noncomputable def si:List Str:=["kinds","place"]
noncomputable def sj:List S:=[.whl (.conj [.cmp .lt (.loc 1) (.bi .len [.loc 0]),.cmp .eq (.idx (.loc 0) (.loc 1)) (.str [99])]) [.aug 1 .add (.int 1)],
 .whl (.conj [.cmp .lt (.loc 1) (.bi .len [.loc 0]),.cmp .eq (.idx (.loc 0) (.loc 1)) (.str [118])]) [.aug 1 .add (.int 1)],
 .ret (.bi .min2 [.bin .add (.loc 1) (.int 1),.bi .len [.loc 0]])]
noncomputable def ur:List Str:=["text","rows","region","row","place","size","before"]
noncomputable def ut:List S:=[.setT [5,6] false (.tup [.int 0,.str []]),
 .for1 3 (.loc 1) [.ite (.conj [.cmp .gt (.bi .len [.idx (.loc 3) (.int 0)]) (.loc 5),.sm .ends (.loc 0) (.idx (.loc 3) (.int 0))]) [.setT [5,6] true (.tup [.bi .len [.idx (.loc 3) (.int 0)],.idx (.loc 3) (.int 1)])] []],
 .set 4 (.bin .sub (.bi .len [.loc 0]) (.loc 5)),
 .ret (.conj [.cmp .gt (.loc 5) (.int 0),.cmp .ge (.loc 4) (.loc 2),.disj [.cmp .eq (.loc 6) (.str []),.cmp .isin (.idx (.loc 0) (.bin .sub (.loc 4) (.int 1))) (.loc 6)]])]
noncomputable def uu:List Str:=["word","text","kinds","first","front","size"]
noncomputable def uw:List S:=[.ite (.cmp .isin (.loc 0) (.call 3 [])) [.ret (.bool false)] [],
 .ite (.disj [.cmp .isin (.loc 0) (.call 2 []),.cmp .lt (.bi .len [.loc 0]) (.int 3)]) [.ret (.bool true)] [],
 .ite (.disj [.cmp .eq (.idx (.loc 0) (.int 0)) (.str [39]),.sm .ends (.loc 0) (.str [39]),.sm .ends (.loc 0) (.str [39,115])]) [.ret (.bool false)] [],
 .set 1 (.call 7 [.loc 0]),
 .ite (.conj [.cmp .isin (.str [89]) (.loc 0),.cmp .ne (.loc 1) (.loc 0)]) [.ret (.bool false)] [],
 .set 2 (.call 6 [.loc 1]),
 .set 3 (.call 8 [.loc 2,.int 0]),
 .for1 4 (.call 4 []) [.ite (.sm .starts (.loc 1) (.loc 4)) [.set 3 (.bi .len [.loc 4])] []],
 .ite (.disj [.call 9 [.loc 1,.glob 0,.loc 3],.call 9 [.loc 1,.glob 1,.call 8 [.loc 2,.loc 3]]]) [.ret (.bool false)] [],
 .set 5 (.bi .len [.loc 1]),
 .ite (.disj [.sm .ends (.loc 1) (.str [117,115]),.sm .ends (.loc 1) (.str [115,115])]) [.ret (.bool true)] [],
 .ite (.sm .ends (.loc 1) (.str [115])) [.ret (.conj [.not (.sm .ends (.loc 1) (.str [115,115,101,115])),.cmp .notin (.str [118]) (.slc (.loc 2) .non (.bin .sub (.loc 5) (.int 2)))])] [],
 .ite (.sm .ends (.loc 1) (.str [101,101,100])) [.ret (.disj [.cmp .lt (.bin .sub (.loc 5) (.int 3)) (.loc 3),.cmp .isin (.slc (.loc 1) .non (.bin .sub (.loc 5) (.int 3))) (.lst [.str [115,117,99,99],.str [112,114,111,99],.str [101,120,99]])])] [],
 .ite (.sm .ends (.loc 1) (.str [101,100])) [.ret (.cmp .notin (.str [118]) (.slc (.loc 2) .non (.bin .sub (.loc 5) (.int 2))))] [],
 .ite (.sm .ends (.loc 1) (.str [105,110,103])) [.ret (.disj [.cmp .notin (.str [118]) (.slc (.loc 2) .non (.bin .sub (.loc 5) (.int 3))),.cmp .isin (.slc (.loc 1) .non (.bin .sub (.loc 5) (.int 3))) (.lst [.str [101,118,101,110],.str [99,97,110,110],.str [105,110,110],.str [101,97,114,114],.str [104,101,114,114],.str [111,117,116]])])] [],
 .ite (.cmp .isin (.idx (.loc 1) (.bin .sub (.loc 5) (.int 1))) (.lst [.str [121],.str [89]])) [.ret (.cmp .eq (.idx (.loc 2) (.bin .sub (.loc 5) (.int 2))) (.str [118]))] [],
 .ite (.conj [.sm .ends (.loc 1) (.str [101]),.cmp .ge (.bin .sub (.loc 5) (.int 1)) (.loc 3)]) [.ite (.disj [.sm .ends (.loc 1) (.str [112,97,115,116,101]),.cmp .eq (.loc 2) (.str [118,99,118])]) [.ret (.bool true)] [],
  .ret (.conj [.sm .ends (.loc 2) (.str [99,118,99,118]),.cmp .notin (.idx (.loc 1) (.bin .sub (.loc 5) (.int 2))) (.lst [.str [119],.str [120],.str [89]])])] [],
 .ret (.bool true)]
noncomputable def wO:List Str:=["word"]
noncomputable def wP:List S:=[.ite (.cmp .isin (.loc 0) (.lst [.str [111,110,108,121],.str [117,103,108,121]])) [.ret (.lst [.bin .add (.slc (.loc 0) .non (.int 3)) (.str [105]),.slc (.loc 0) .non (.int 2)])] [],
 .ite (.conj [.cmp .isin (.idx (.loc 0) (.int 0)) (.str [97,101,105,111,117]),.cmp .notin (.idx (.loc 0) (.int 1)) (.str [115,117]),.cmp .eq (.slc (.loc 0) (.int 2) .non) (.str [115,101])]) [.ret (.lst [.slc (.loc 0) .non (.int 3),.slc (.loc 0) .non (.int 2)])] [],
 .ite (.cmp .isin (.loc 0) (.lst [.str [97,101,100,101],.str [111,101,100,101],.str [117,101,100,101]])) [.ret (.lst [.slc (.loc 0) .non (.int 3),.slc (.loc 0) .non (.int 1)])] [],
 .ite (.cmp .eq (.loc 0) (.str [105,101,100,101])) [.ret (.lst [.str [105,101,100],.str [105,101]])] [],
 .ite (.conj [.cmp .isin (.idx (.loc 0) (.int 0)) (.str [97,101,105,111,117]),.cmp .notin (.idx (.loc 0) (.int 1)) (.str [97,101,105,111,117]),.cmp .eq (.slc (.loc 0) (.int 2) .non) (.str [121,101])]) [.ret (.lst [.slc (.loc 0) .non (.int 3),.bin .add (.slc (.loc 0) .non (.int 2)) (.str [105])])] [],
 .ret (.lst [])]
noncomputable def Gy:List Str:=["script","k","pair","word","asked","stem","again","due","text","number","turns","turn","one","two","three","marked","told","sign"]
noncomputable def k7:List S:=[.setL [12,13,14] (.slc (.bin .add (.slc (.loc 0) .non (.int 3)) (.lst [.int 0,.int 0,.int 0])) .non (.int 3)),
 .set 1 (.bin .mod (.loc 14) (.int 8)),
 .set 2 (.ife (.cmp .lt (.loc 1) (.int 6)) (.idx (.call 1 []) (.loc 1)) (.bin .add (.idx (.call 0 []) (.bin .mod (.bin .fdiv (.loc 14) (.int 8)) (.int 26))) (.idx (.call 0 []) (.bin .mod (.bin .fdiv (.loc 14) (.int 208)) (.int 26))))),
 .set 3 (.bin .add (.bin .add (.idx (.call 0 []) (.bin .mod (.loc 12) (.int 26))) (.idx (.call 0 []) (.bin .mod (.loc 13) (.int 26)))) (.loc 2)),
 .set 4 (.new 0),
 .set 5 (.meth (.loc 4) 26 [.loc 3]),
 .set 6 (.meth (.loc 4) 26 [.loc 5]),
 .set 7 (.call 11 [.loc 3]),
 .ite (.cmp .ne (.lst [.loc 5,.loc 6]) (.ife (.cmp .eq (.loc 7) (.lst [])) (.lst [.loc 5,.loc 5]) (.loc 7))) [.ret (.bool false)] [],
 .set 8 (.str []),
 .for1 9 (.slc (.loc 0) (.int 3) (.int 23)) [.set 1 (.bin .mod (.loc 9) (.int 137)),
  .set 8 (.bin .add (.loc 8) (.ife (.cmp .lt (.loc 1) (.int 136)) (.idx (.call 0 []) (.loc 1)) (.bi .chr [.bin .mod (.bin .add (.int 32) (.bin .fdiv (.loc 9) (.int 137))) (.int 55296)])))],
 .set 8 (.slc (.loc 8) (.bi .max2 [.int 0,.bin .sub (.bi .len [.loc 8]) (.int 14)]) .non),
 .set 10 (.bi .max2 [.int 0,.bin .sub (.bi .len [.loc 8]) (.ife (.conj [.cmp .isin (.str [89]) (.loc 8),.cmp .gt (.bi .len [.loc 8]) (.int 3)]) (.int 1) (.int 2))]),
 .for1 11 (.rng [.bin .add (.loc 10) (.int 1)]) [.set 5 (.meth (.loc 4) 26 [.loc 8]),
  .ite (.cmp .ne (.cmp .eq (.loc 5) (.loc 8)) (.call 10 [.loc 8])) [.ret (.bool false)] [],
  .ite (.cmp .eq (.loc 5) (.loc 8)) [.ret (.bool true)] [],
  .set 15 (.call 7 [.loc 8]),
  .set 16 (.ife (.cmp .eq (.loc 15) (.loc 8)) (.loc 8) (.sm .join (.str []) (.comp (.ife (.cmp .eq (.loc 17) (.str [89])) (.str [121]) (.loc 17)) 17 (.loc 8)))),
  .ite (.conj [.cmp .isin (.idx (.loc 15) (.bin .sub (.bi .len [.loc 15]) (.int 1))) (.lst [.str [121],.str [89]]),.not (.call 5 [.idx (.loc 15) (.bin .sub (.bi .len [.loc 15]) (.int 2))])]) [.set 16 (.bin .add (.slc (.loc 16) .non (.bin .sub (.bi .len [.loc 16]) (.int 1))) (.str [105]))] [],
  .ite (.conj [.cmp .ge (.bi .len [.loc 5]) (.bi .len [.loc 8]),.cmp .ne (.loc 5) (.loc 16)]) [.ret (.bool false)] [],
  .set 8 (.loc 5)],
 .ret (.bool false)]
noncomputable def tb0:List Row:=[([97,114,115,101,110],-1,-1),([99,111,109,109,117,110],-1,-1),([101,109,101,114,103],-1,-1),([103,101,110,101,114],-1,-1),([105,110,116,101,114],-1,-1),([108,97,116,101,114],-1,-1),([111,114,103,97,110],-1,-1),([112,97,115,116],-1,-1),([117,110,105,118,101,114,115],-1,-1)]
noncomputable def tb1:List Row:=[([39],-1,1),([39,115,39],0,1),([39,115],-1,1)]
noncomputable def tb2:List Row:=[([105,101,100],-1,2),([115],-1,3),([105,101,115],1,2),([115,115,101,115],1,1),([115,115],1,-1),([117,115],1,-1)]
noncomputable def tb3:List Row:=[([115,117,99,99],-1,1),([112,114,111,99],-1,1),([101,120,99],-1,1)]
noncomputable def tb4:List Row:=[([101,118,101,110],-1,2),([99,97,110,110],-1,2),([105,110,110],-1,2),([101,97,114,114],-1,2),([104,101,114,114],-1,2),([111,117,116],-1,2),([121],-1,1)]
noncomputable def tb5:List Row:=[([],-1,-1),([101,100],0,2),([101,101,100],1,1),([105,110,103],0,3),([101,100,108,121],0,2),([101,101,100,108,121],4,1),([105,110,103,108,121],0,2)]
noncomputable def tb6:List Row:=[([],-1,3),([98,98],0,2),([100,100],0,2),([102,102],0,2),([103,103],0,2),([98,108],0,1),([109,109],0,2),([110,110],0,2),([112,112],0,2),([114,114],0,2),([97,116],0,1),([116,116],0,2),([105,122],0,1)]
noncomputable def tb7:List Row:=[([97,110,99,105],-1,3),([101,110,99,105],-1,2),([111,103,105],-1,14),([108,105],-1,16),([98,108,105],3,12),([97,98,108,105],4,4),([97,108,108,105],3,8),([102,117,108,108,105],3,9),([108,101,115,115,108,105],3,15),([111,117,115,108,105],3,10),([101,110,116,108,105],3,5),([97,108,105,116,105],-1,8),([98,105,108,105,116,105],-1,12),([105,118,105,116,105],-1,11),([116,105,111,110,97,108],-1,1),([97,116,105,111,110,97,108],14,7),([97,108,105,115,109],-1,8),([97,116,105,111,110],-1,7),([105,122,97,116,105,111,110],17,6),([105,122,101,114],-1,6),([97,116,111,114],-1,7),([105,118,101,110,101,115,115],-1,11),([102,117,108,110,101,115,115],-1,9),([111,117,115,110,101,115,115],-1,10),([111,103,105,115,116],-1,13)]
noncomputable def tb8:List Row:=[([105,99,97,116,101],-1,4),([97,116,105,118,101],-1,6),([97,108,105,122,101],-1,3),([105,99,105,116,105],-1,4),([105,99,97,108],-1,4),([116,105,111,110,97,108],-1,1),([97,116,105,111,110,97,108],5,2),([102,117,108],-1,5),([110,101,115,115],-1,5)]
noncomputable def tb9:List Row:=[([105,99],-1,1),([97,110,99,101],-1,1),([101,110,99,101],-1,1),([97,98,108,101],-1,1),([105,98,108,101],-1,1),([97,116,101],-1,1),([105,118,101],-1,1),([105,122,101],-1,1),([105,116,105],-1,1),([97,108],-1,1),([105,115,109],-1,1),([105,111,110],-1,2),([101,114],-1,1),([111,117,115],-1,1),([97,110,116],-1,1),([101,110,116],-1,1),([109,101,110,116],15,1),([101,109,101,110,116],16,1)]
noncomputable def jH:List Row:=[([101],-1,1),([108],-1,2)]
noncomputable def gz:List Row:=[([97,110,100,101,115],-1,-1),([97,116,108,97,115],-1,-1),([98,105,97,115],-1,-1),([99,111,115,109,111,115],-1,-1),([101,97,114,108,121],-1,6),([103,101,110,116,108,121],-1,4),([104,111,119,101],-1,-1),([105,100,108,121],-1,3),([110,101,119,115],-1,-1),([111,110,108,121],-1,7),([115,105,110,103,108,121],-1,8),([115,107,105,101,115],-1,2),([115,107,105,115],-1,1),([115,107,121],-1,-1),([117,103,108,121],-1,5)]
noncomputable def kh:List (List Nat):=[[115,107,105],[115,107,121],[105,100,108],[103,101,110,116,108],[117,103,108,105],[101,97,114,108,105],[111,110,108,105],[115,105,110,103,108]]
noncomputable def eL:List (List Nat×List Nat):=[([97,110,99,105],[]),([101,110,99,105],[]),([111,103,105],[108]),([108,105],[99,100,101,103,104,107,109,110,114,116]),([98,108,105],[]),([97,98,108,105],[]),([97,108,108,105],[]),([102,117,108,108,105],[]),([108,101,115,115,108,105],[]),([111,117,115,108,105],[]),([101,110,116,108,105],[]),([97,108,105,116,105],[]),([98,105,108,105,116,105],[]),([105,118,105,116,105],[]),([105,99,105,116,105],[]),([116,105,111,110,97,108],[]),([97,116,105,111,110,97,108],[]),([105,99,97,108],[]),([102,117,108],[]),([97,108,105,115,109],[]),([97,116,105,111,110],[]),([105,122,97,116,105,111,110],[]),([105,122,101,114],[]),([97,116,111,114],[]),([110,101,115,115],[]),([111,103,105,115,116],[]),([105,99,97,116,101],[]),([97,108,105,122,101],[])]
noncomputable def gA:List (List Nat×List Nat):=[([97,108],[]),([108],[108]),([105,99],[]),([101,114],[]),([105,115,109],[]),([105,116,105],[]),([111,117,115],[]),([97,110,116],[]),([101,110,116],[]),([109,101,110,116],[]),([101,109,101,110,116],[]),([105,111,110],[115,116]),([101],[])]
noncomputable def tbs:List (Addr×List Row):=[(340,tb0),(368,tb1),(378,tb2),(397,tb3),(407,tb4),(429,tb5),(451,tb6),(491,tb7),(567,tb8),(595,tb9),(650,jH),(657,gz)]
noncomputable def aQ:Addr→List Row→List V
 | _,[]=>[]
 | a,_ :: l=>.g (.ref (a+1)) :: aQ (a+3) l
noncomputable def iV (e:Row):ah:=[(9,.str e.1),(10,.int e.2.1),(11,.int e.2.2)]
noncomputable def roT:Addr→List Row→Addr→Option ah
 | _,[],_=>none
 | a,e :: l,x=>if x==a+1 then some (iV e) else roT (a+3) l x
noncomputable def roA:List (Addr×List Row)→Addr→Option ah
 | [],_=>none
 | t :: r,x=>match roT t.1 t.2 x with | some f=>some f | none=>roA r x
noncomputable def nM (l:List (List Nat)):List V:=l.map .str
noncomputable def fA (l:List Nat):V:=.sset (l.map fun c=>[c])
noncomputable def vs1:List Nat:=[97,101,105,111,117,121]
noncomputable def vs2:List Nat:=[89,97,101,105,111,117,119,120,121]
noncomputable def vs3:List Nat:=[99,100,101,103,104,107,109,110,114,116]
noncomputable def i9 (name:Str):List Stmt→Option (Arguments×List Stmt×Scope)
 | .FunctionDef n a b _ _ _ sc _ _ _ :: r=>if n==name then some (a,b,sc) else i9 name r
 | _ :: r=>i9 name r
 | []=>none
noncomputable def ja (name:Str):List Stmt→Option (List Stmt×Scope)
 | .ClassDef n _ _ b _ _ sc _ _ _ _ :: r=>if n==name then some (b,sc) else ja name r
 | _ :: r=>ja name r
 | []=>none
noncomputable def an1:List Str:=["current","cursor","limit","limit_backward","bra","ket","B_Y_found","I_p1","I_p2","s","substring_i","result"]
noncomputable def an2:List Str:=["set_current","get_current","in_grouping","go_in_grouping","in_grouping_b","go_out_grouping","out_grouping_b","go_out_grouping_b","eq_s_b","find_among","find_among_b","replace_s","slice_from","slice_del","stemWord","r_prelude","r_mark_regions","r_shortv"]
noncomputable def an3:List Str:=["r_R1","r_R2","r_Step_1a","r_Step_1b","r_Step_1c","r_Step_2","r_Step_3","r_Step_4","r_Step_5","r_exception1","r_postlude","_stem"]
noncomputable def nN:List Str:=an1++(an2++an3)
noncomputable def anF (i:Nat):Str:=if i<42 then nN.getD i "?" else txt (List.replicate i 63)
noncomputable def P2:Pg where
 an:=anF
 gls:=[("_law_near",.list (eL.map fun e=>.tup [.str e.1,.str e.2])),("_law_far",.list (gA.map fun e=>.tup [.str e.1,.str e.2]))]
 fns:=["_law_parts","_law_pairs","_law_left","_law_swapped","_law_fronts","_law_vowel","_law_kinds","_law_marked","_law_behind","_law_moves","_law_rests","_law_four"]
 mt:=[(706,12,12),(706,13,13),(706,14,14),(706,15,15),(706,16,16),(706,17,17),(706,18,18),(706,19,19),(706,20,20),(706,21,21),(706,22,22),(706,23,23),(706,24,24),(706,25,25),(706,26,26),(706,27,27),(706,28,28),(706,29,29),(706,30,30),(706,31,31),(706,32,32),(706,33,33),(706,34,34),(706,35,35),(706,36,36),(706,37,37),(706,38,38),(706,39,39),(706,40,40),(706,41,41)]
 cl:=[("EnglishStemmer",706,42)]
 cat:=[("EnglishStemmer",706,"g_aeo",.str [97,101,111]),("EnglishStemmer",706,"g_v",fA vs1),("EnglishStemmer",706,"g_v_WXY",fA vs2),("EnglishStemmer",706,"g_valid_LI",fA vs3),("EnglishStemmer",706,"a_0",.list (aQ 340 tb0)),("EnglishStemmer",706,"a_1",.list (aQ 368 tb1)),("EnglishStemmer",706,"a_2",.list (aQ 378 tb2)),("EnglishStemmer",706,"a_3",.list (aQ 397 tb3)),("EnglishStemmer",706,"a_4",.list (aQ 407 tb4)),("EnglishStemmer",706,"a_5",.list (aQ 429 tb5)),("EnglishStemmer",706,"a_6",.list (aQ 451 tb6)),("EnglishStemmer",706,"a_7",.list (aQ 491 tb7)),("EnglishStemmer",706,"a_8",.list (aQ 567 tb8)),("EnglishStemmer",706,"a_9",.list (aQ 595 tb9)),("EnglishStemmer",706,"a_10",.list (aQ 650 jH)),("EnglishStemmer",706,"a_11",.list (aQ 657 gz)),("EnglishStemmer",706,"as_11",.tup (nM kh))]
 cs:=[706]
 ats:=[0,1,2,3,4,5,6,7,8,9,10,11]
 ro:=roA tbs
 ex:=[("lab0",718),("lab1",731),("lab2",744)]
structure Fn2 where
 cl:Option Str
 nm:Str
 np:Nat
 nv:Nat
 vars:List Str
 body:List S
noncomputable def gB:List Fn2:=[⟨some "BaseStemmer","set_current",2,0,qu,qv⟩,
 ⟨some "BaseStemmer","get_current",1,0,qw,qx⟩,
 ⟨some "BaseStemmer","in_grouping",2,0,qy,qz⟩,
 ⟨some "BaseStemmer","go_in_grouping",2,0,mj,mo⟩,
 ⟨some "BaseStemmer","in_grouping_b",2,0,nK,nL⟩,
 ⟨some "BaseStemmer","go_out_grouping",2,0,lJ,lK⟩,
 ⟨some "BaseStemmer","out_grouping_b",2,0,mq,mr⟩,
 ⟨some "BaseStemmer","go_out_grouping_b",2,0,jY,jZ⟩,
 ⟨some "BaseStemmer","eq_s_b",2,0,Ad,Ae⟩,
 ⟨some "BaseStemmer","find_among",2,12,r6,r7⟩,
 ⟨some "BaseStemmer","find_among_b",2,12,pq,pr⟩,
 ⟨some "BaseStemmer","replace_s",4,1,tX,tY⟩,
 ⟨some "BaseStemmer","slice_from",2,0,r8,r9⟩,
 ⟨some "BaseStemmer","slice_del",1,0,tZ,t7⟩,
 ⟨some "BaseStemmer","stemWord",2,0,wB,wC⟩,
 ⟨some "EnglishStemmer","r_prelude",1,5,t8,t9⟩,
 ⟨some "EnglishStemmer","r_mark_regions",1,2,my,mz⟩,
 ⟨some "EnglishStemmer","r_shortv",1,1,wD,wE⟩,
 ⟨some "EnglishStemmer","r_R1",1,0,Em,En⟩,
 ⟨some "EnglishStemmer","r_R2",1,0,Eo,Ep⟩,
 ⟨some "EnglishStemmer","r_Step_1a",1,3,uc,f9⟩,
 ⟨some "EnglishStemmer","r_Step_1b",1,9,ud,ue⟩,
 ⟨some "EnglishStemmer","r_Step_1c",1,0,uf,ug⟩,
 ⟨some "EnglishStemmer","r_Step_2",1,1,wF,wG⟩,
 ⟨some "EnglishStemmer","r_Step_3",1,1,wH,wI⟩,
 ⟨some "EnglishStemmer","r_Step_4",1,1,wJ,wK⟩,
 ⟨some "EnglishStemmer","r_Step_5",1,2,wL,jG⟩,
 ⟨some "EnglishStemmer","r_exception1",1,1,pt,pv⟩,
 ⟨some "EnglishStemmer","r_postlude",1,2,sb,sd⟩,
 ⟨some "EnglishStemmer","_stem",1,9,Er,Es⟩,
 ⟨some "BaseStemmer","__init__",1,0,Ek,El⟩]
noncomputable def fS:List Fn2:=[⟨none,"_law_parts",0,0,uh,ui⟩,
 ⟨none,"_law_pairs",0,0,uj,uk⟩,
 ⟨none,"_law_left",0,0,wM,wN⟩,
 ⟨none,"_law_swapped",0,0,qA,qB⟩,
 ⟨none,"_law_fronts",0,0,sf,sg⟩,
 ⟨none,"_law_vowel",1,0,um,un⟩,
 ⟨none,"_law_kinds",1,1,uo,uq⟩,
 ⟨none,"_law_marked",0,0,[],[]⟩,
 ⟨none,"_law_behind",2,0,si,sj⟩,
 ⟨none,"_law_moves",3,4,ur,ut⟩,
 ⟨none,"_law_rests",1,5,uu,uw⟩,
 ⟨none,"_law_four",1,0,wO,wP⟩,
 ⟨none,"law",1,17,Gy,k7⟩]
noncomputable def Fn2.dfn (f:Fn2):Option (Arguments×List Stmt×Scope):=match f.cl with
 | some c=>(ja c pw.main.body).bind fun b=>i9 f.nm b.1
 | none=>i9 f.nm pw.main.body
noncomputable def jb (k:Nat) (a:Arguments):Bool:=a.posonlyargs.isEmpty&&a.vararg.isNone&&a.kwonlyargs.isEmpty&&a.kw_defaults.isEmpty&&a.kwarg.isNone&&a.defaults.isEmpty&&a.args.length==k
noncomputable def Fn2.ok (f:Fn2):Bool:=match f.dfn with
 | some (a,b,sc)=>jb f.np a&&z7 P2 a.args f.vars sc f.nv f.body b
 | none=>false
theorem vg:(gB.all Fn2.ok)=true:=by decide +kernel
theorem Cs:(fS.all fun f=>f.nm==("_law_marked":Str)||f.ok)=true:=by decide +kernel
open Classical in
noncomputable def fB (run:Rho→St→Res) (k nv:Nat):List V→Option V:=fun xs =>
 if h:∃ r,∀ σ,im run k nv xs σ=some (r,σ) then some h.choose else none
theorem qd {run:Rho→St→Res}{k nv:Nat}{xs:List V}{r:V}(σ:St) (h:fB run k nv xs=some r):im run k nv xs σ=some (r,σ):=by
 unfold fB at h
 split at h
 ·rename_i q;obtain rfl:=aaa h;exact q.choose_spec σ
 ·injection h
theorem sk {run:Rho→St→Res}{k nv:Nat}{xs:List V}{r:V}(h:∀ σ,im run k nv xs σ=some (r,σ)):fB run k nv xs=some r:=by
 unfold fB
 have q:∃ r,∀ σ,im run k nv xs σ=some (r,σ):=⟨r,h⟩
 rw [dif_pos q]
 have:=(q.choose_spec []).symm.trans (h [])
 simp only [Option.some.injEq,Prod.mk.injEq,and_true] at this
 rw [this]
noncomputable def aO:Nat:=1000
noncomputable def fC:X:=.ife (.conj [.cmp .eq (.loc 2) (.str [121]),.disj [.cmp .eq (.loc 1) (.lst []),.call 5 [.idx (.loc 1) (.neg (.int 1))]]]) (.str [89]) (.loc 2)
noncomputable def ΦB (G:Sg) (f:Nat):ib:=match gB[f - 12]? with
 | some x=>gw G aO x.np x.nv x.body
 | none=>fun zz zz=>none
noncomputable def ΨB (G:Sg) (f:Nat):List V→Option V:=match Nat.beq f 7 with
 | true=>fB (jE G fC) 1 2
 | false=>match fS[f]? with
  | some x=>fB (exB G aO x.body) x.np x.nv
  | none=>fun zz=>none
noncomputable def FF:Nat→(Nat→ib)×(Nat→List V→Option V)
 | 0=>(fun zz zz zz=>none,fun zz zz=>none)
 | k+1=>(ΦB ⟨P2,(FF k).1,(FF k).2⟩,ΨB ⟨P2,(FF k).1,(FF k).2⟩)
noncomputable def GG (k:Nat):Sg:=⟨P2,(FF k).1,(FF k).2⟩
theorem sq (k:Nat):(GG k).P=P2:=rfl
noncomputable def kE (P:Params) (s:String) (n:Nat) (v:Value):DictEntry:=⟨PyData.keyHash P (Str.ofString s),Value.str (Str.ofString s) n,v⟩
noncomputable def bj:List Stmt:=((ja "EnglishStemmer" pw.main.body).map (·.1)).getD []
noncomputable def Ct:Scope:=((ja "EnglishStemmer" pw.main.body).map (·.2)).getD default
noncomputable def aM:Env:={ scope:=Ct,locals:=227,globals:=3,cells:=[],qual:="EnglishStemmer.",func:=none,code:=.ref 230,frame:=some 231,builtins:=0}
noncomputable def Bt (P:Params):List DictEntry:=[
 kE P "__module__" 482 (Value.str (Str.ofString "snowballstemmer.english_stemmer") 473),
 kE P "__qualname__" 484 (Value.str (Str.ofString "EnglishStemmer") 483),
 kE P "__firstlineno__" 486 (Value.int 219 485),
 kE P "g_aeo" 488 (Value.str (Str.ofString "aeo") 487),
 kE P "g_v" 501 (Value.ref 232),
 kE P "g_v_WXY" 520 (Value.ref 233),
 kE P "g_valid_LI" 541 (Value.ref 234),
 kE P "B_Y_found" 542 (Value.bool Bool.false),
 kE P "I_p2" 544 (Value.int 0 543),
 kE P "I_p1" 546 (Value.int 0 545),
 kE P "r_prelude" 558 (Value.ref 241),
 kE P "r_mark_regions" 567 (Value.ref 248),
 kE P "r_shortv" 575 (Value.ref 255),
 kE P "r_R1" 582 (Value.ref 262),
 kE P "r_R2" 589 (Value.ref 269),
 kE P "r_Step_1a" 599 (Value.ref 276),
 kE P "r_Step_1b" 615 (Value.ref 283),
 kE P "r_Step_1c" 622 (Value.ref 290),
 kE P "r_Step_2" 630 (Value.ref 297),
 kE P "r_Step_3" 638 (Value.ref 304),
 kE P "r_Step_4" 646 (Value.ref 311),
 kE P "r_Step_5" 655 (Value.ref 318),
 kE P "r_exception1" 663 (Value.ref 325),
 kE P "r_postlude" 672 (Value.ref 332),
 kE P "_stem" 688 (Value.ref 339),
 kE P "a_0" 824 (Value.ref 367),
 kE P "a_1" 866 (Value.ref 377),
 kE P "a_2" 949 (Value.ref 396),
 kE P "a_3" 992 (Value.ref 406),
 kE P "a_4" 1091 (Value.ref 428),
 kE P "a_5" 1185 (Value.ref 450),
 kE P "a_6" 1356 (Value.ref 490),
 kE P "a_7" 1698 (Value.ref 566),
 kE P "a_8" 1824 (Value.ref 594),
 kE P "a_9" 2075 (Value.ref 649),
 kE P "a_10" 2104 (Value.ref 656),
 kE P "a_11" 2322 (Value.ref 702)]
noncomputable def bb (P:Params) (k:Nat):Obj:={ cls:=Value.type "dict",data:=PySem.Data.dict ((Bt P).take k).toArray k}
noncomputable def o_2 (P:Params):Obj :=
{ cls:=Value.none,data:=PySem.Data.dict #[]}
noncomputable def o_3 (P:Params):Obj :=
{ cls:=Value.type "dict",
  data :=
   PySem.Data.dict
    #[{ hash:=PyData.keyHash P (Str.ofString "__name__"),key:=Value.str (Str.ofString "__name__") 165,
        val:=Value.str (Str.ofString "snowballstemmer.english_stemmer") 473},
     kE P "__doc__" 166 (Value.none),
     kE P "__package__" 167 (Value.none),
     kE P "__loader__" 168 (Value.builtin "__main__.__loader__#opaque"),
     kE P "__spec__" 169 (Value.none),
     kE P "__annotations__" 170 (Value.ref 6),
     kE P "__builtins__" 171 (Value.ref 4),
     kE P "__file__" 173 (Value.str (Str.ofString "/claim/cut.py") 172),
     kE P "__cached__" 174 (Value.none),
     kE P "_wall" 193 (Value.ref 21),
     kE P "BaseStemmer" 437 (Value.ref 199),
     kE P "Among" 472 (Value.ref 220)]
    12}
noncomputable def nO (P:Params):Obj :=
{ cls:=Value.type "code",
  data :=
   PySem.Data.fields
    #[Value.str (Str.ofString "__init__") 452,Value.str (Str.ofString "Among.__init__") 453,Value.str (Str.ofString "/claim/cut.py") 454,Value.int 214 0,
     Value.int 4 0,Value.int 0 0,Value.int 0 0,Value.int 3 0,Value.ref 211,Value.bool Bool.true,Value.int 181 0,Value.ref 212,
     Value.none,Value.ref 213,Value.ref 214,Value.ref 215,Value.int 459 0,Value.int 214 0,Value.str (Str.ofString "/claim/cut.py") 460]}
noncomputable def nP (P:Params):Obj :=
{ cls:=Value.type "function",
  data :=
   PySem.Data.func
    { name:=Str.ofString "__init__",qualname:=Str.ofString "Among.__init__",
      params :=
       { posonlyargs:=[],
         args :=
          [{ arg:=Str.ofString "self",annotation:=Option.none,pos:={ line:=214,col:=17,endLine:=214,endCol:=21}},
           { arg:=Str.ofString "s",annotation:=Option.none,pos:={ line:=214,col:=23,endLine:=214,endCol:=24}},
           { arg:=Str.ofString "substring_i",annotation:=Option.none,pos:={ line:=214,col:=26,endLine:=214,endCol:=37}},
           { arg:=Str.ofString "result",annotation:=Option.none,pos:={ line:=214,col:=39,endLine:=214,endCol:=45}}],
         vararg:=Option.none,kwonlyargs:=[],kw_defaults:=[],kwarg:=Option.none,defaults:=[]},
      body :=
       PySem.FuncBody.stmts
        [PySem.Stmt.Assign
         [(PySem.Expr.Name (Str.ofString "self") { line:=215,col:=8,endLine:=215,endCol:=12}).Attribute (Str.ofString "s")
          { line:=215,col:=8,endLine:=215,endCol:=14}]
         (PySem.Expr.Name (Str.ofString "s") { line:=215,col:=17,endLine:=215,endCol:=18}) { line:=215,col:=8,endLine:=215,endCol:=18},
         PySem.Stmt.Assign
          [(PySem.Expr.Name (Str.ofString "self") { line:=216,col:=8,endLine:=216,endCol:=12}).Attribute (Str.ofString "substring_i")
           { line:=216,col:=8,endLine:=216,endCol:=24}]
          (PySem.Expr.Name (Str.ofString "substring_i") { line:=216,col:=27,endLine:=216,endCol:=38}) { line:=216,col:=8,endLine:=216,endCol:=38},
         PySem.Stmt.Assign
          [(PySem.Expr.Name (Str.ofString "self") { line:=217,col:=8,endLine:=217,endCol:=12}).Attribute (Str.ofString "result")
           { line:=217,col:=8,endLine:=217,endCol:=19}]
          (PySem.Expr.Name (Str.ofString "result") { line:=217,col:=22,endLine:=217,endCol:=28}) { line:=217,col:=8,endLine:=217,endCol:=28}],
      scope :=
       { kind:=PySem.ScopeKind.function,
         names :=
          [(Str.ofString "self",PySem.NameKind.local),(Str.ofString "s",PySem.NameKind.local),(Str.ofString "substring_i",PySem.NameKind.local),
           (Str.ofString "result",PySem.NameKind.local)],
         isGenerator:=Bool.false,isCoroutine:=Bool.false},
      globals:=3,closure:=[],defaults:=Value.none,kwdefaults:=Value.none,pyModule:=Value.str (Str.ofString "snowballstemmer.among") 438,
      code:=Value.ref 216}}
noncomputable def nQ (P:Params):Obj :=
{ cls:=Value.type "dict",
  data :=
   PySem.Data.dict
    #[{ hash:=PyData.keyHash P (Str.ofString "__module__"),key:=Value.str (Str.ofString "__module__") 447,
        val:=Value.str (Str.ofString "snowballstemmer.among") 438},
     kE P "__firstlineno__" 451 (Value.int 212 450),
     kE P "__init__" 461 (Value.ref 217),
     kE P "__static_attributes__" 465 (Value.ref 218),
     kE P "__dict__" 467 (Value.ref 221),
     kE P "__weakref__" 469 (Value.ref 222),
     kE P "__doc__" 470 (Value.none)]
    4}
noncomputable def nR (P:Params):Obj :=
{ cls:=Value.type "type",
  data :=
   PySem.Data.cls
    { name:=Str.ofString "Among",bases:=[Value.type "object"],mro:=[Value.ref 220,Value.type "object"],ns:=219,qualname:=Str.ofString "Among"},
  slots :=
   #[Option.none,Option.none,Option.some (Value.str (Str.ofString "Among") 440),Option.some (Value.str (Str.ofString "Among") 448),
    Option.some (Value.builtin "object.__new__"),Option.some (Value.bool Bool.true)]}
noncomputable def o_4:Obj :=
{ cls:=Value.type "module",dict:=Option.some 0}
noncomputable def qK:Obj :=
{ cls:=Value.none,data:=PySem.Data.fields #[]}
noncomputable def k8:Obj :=
{ cls:=Value.type "code",
  data :=
   PySem.Data.fields
    #[Value.str (Str.ofString "EnglishStemmer") 477,Value.str (Str.ofString "EnglishStemmer") 478,Value.str (Str.ofString "/claim/cut.py") 479,
     Value.int 219 0,Value.int 0 0,Value.int 0 0,Value.int 0 0,Value.int 0 0,Value.ref 228,Value.bool Bool.false,Value.int 181 0,
     Value.ref 229,Value.none,Value.none,Value.none,Value.none,Value.int 480 0,Value.int 219 0,
     Value.str (Str.ofString "/claim/cut.py") 481]}
noncomputable def neg (i:Int):Nat:=if i<0 then 1 else 0
noncomputable def yp (P:Params) (t:Nat) (e:Row):Obj:=⟨.type "dict",none,.dict #[⟨PyData.keyHash P "s",.str "s" (t+8+(neg e.2.1+neg e.2.2)),.str (txt e.1) t⟩,⟨PyData.keyHash P "substring_i",.str "substring_i" (t+10+(neg e.2.1+neg e.2.2)),.int e.2.1 (t+1+neg e.2.1)⟩,⟨PyData.keyHash P "result",.str "result" (t+12+(neg e.2.1+neg e.2.2)),.int e.2.2 (t+2+(neg e.2.1+neg e.2.2))⟩] 3,#[]⟩
noncomputable def Bu (a:Addr):Obj:=⟨.ref 220,some a,.plain,#[]⟩
noncomputable def cS (P:Params):Addr→Nat→List Row→List (Nat×Obj)
 | _,_,[]=>[]
 | a,t,e :: l=>(a,yp P t e) :: (a+1,Bu a) :: cS P (a+3) (t+13+(neg e.2.1+neg e.2.2)) l
noncomputable def nS:Addr→List Row→List Value
 | _,[]=>[]
 | a,_ :: l=>.ref (a+1) :: nS (a+3) l
noncomputable def lsO (a:Addr) (l:List Row):Nat×Obj:=(a+3*l.length,⟨.type "list",none,.seq (nS a l).toArray 0,#[]⟩)
noncomputable def ob0 (P:Params):List (Nat×Obj):=lsO 340 tb0 :: cS P 340 689 tb0
noncomputable def ob1 (P:Params):List (Nat×Obj):=lsO 368 tb1 :: cS P 368 825 tb1
noncomputable def ob2 (P:Params):List (Nat×Obj):=lsO 378 tb2 :: cS P 378 867 tb2
noncomputable def ob3 (P:Params):List (Nat×Obj):=lsO 397 tb3 :: cS P 397 950 tb3
noncomputable def ob4 (P:Params):List (Nat×Obj):=lsO 407 tb4 :: cS P 407 993 tb4
noncomputable def ob5 (P:Params):List (Nat×Obj):=lsO 429 tb5 :: cS P 429 1092 tb5
noncomputable def ob6 (P:Params):List (Nat×Obj):=lsO 451 tb6 :: cS P 451 1186 tb6
noncomputable def ob7 (P:Params):List (Nat×Obj):=lsO 491 tb7 :: cS P 491 1357 tb7
noncomputable def ob8 (P:Params):List (Nat×Obj):=lsO 567 tb8 :: cS P 567 1699 tb8
noncomputable def ob9 (P:Params):List (Nat×Obj):=lsO 595 tb9 :: cS P 595 1825 tb9
noncomputable def Ht (P:Params):List (Nat×Obj):=lsO 650 jH :: cS P 650 2076 jH
noncomputable def Hu (P:Params):List (Nat×Obj):=lsO 657 gz :: cS P 657 2105 gz
noncomputable def gk (P:Params) (k:Nat):List (Nat×Obj):=[(227,bb P k),(3,o_3 P),(220,nR P),(219,nQ P),(217,nP P),(216,nO P),(2,o_2 P)]
noncomputable def bO:Code:=.body bj aM
structure eS where
 a:Addr
 pm:Nat
 t:Nat
 l:Nat
 u:Nat
 full:Bool
noncomputable def cT:List eS:=[⟨42,0,215,10,220,true⟩,⟨49,0,223,18,227,true⟩,⟨63,0,238,24,243,true⟩,⟨70,0,246,32,251,true⟩,⟨77,0,254,39,259,true⟩,⟨98,0,278,53,283,true⟩,⟨105,0,286,60,291,true⟩,⟨112,0,294,68,299,true⟩,⟨126,0,310,78,315,true⟩,⟨133,0,318,84,335,true⟩,⟨140,0,338,129,355,true⟩,⟨147,0,358,174,366,true⟩,⟨154,0,369,184,374,true⟩,⟨161,0,377,192,381,true⟩,⟨189,0,408,204,413,true⟩,⟨241,1,547,228,556,true⟩,⟨248,1,559,288,565,true⟩,⟨255,1,568,322,573,true⟩,⟨262,1,576,352,580,true⟩,⟨269,1,583,355,587,true⟩,⟨276,1,590,358,597,true⟩,⟨283,1,600,400,613,true⟩,⟨290,1,616,492,620,true⟩,⟨297,1,623,514,628,true⟩,⟨304,1,631,561,636,true⟩,⟨311,1,639,585,644,true⟩,⟨318,1,647,611,653,true⟩,⟨325,1,656,646,661,true⟩,⟨332,1,664,658,670,true⟩,⟨339,1,673,688,686,true⟩,⟨35,0,208,7,212,true⟩]
noncomputable def dP:List eS:=[⟨754,2,2405,761,2408,true⟩,⟨761,2,2411,763,2414,true⟩,⟨768,2,2417,765,2420,true⟩,⟨775,2,2423,767,2426,true⟩,⟨782,2,2429,769,2432,true⟩,⟨832,2,2519,773,2523,true⟩,⟨837,2,2526,775,2529,false⟩,⟨844,2,2532,777,2538,true⟩,⟨851,2,2541,782,2546,true⟩,⟨858,2,2549,788,2559,true⟩,⟨865,2,2562,795,2571,true⟩,⟨872,2,2574,830,2578,true⟩,⟨877,2,2581,842,2584,false⟩]
noncomputable def Et:Nat→Value
 | 0=>Value.str (Str.ofString "snowballstemmer.basestemmer") 194
 | 1=>Value.str (Str.ofString "snowballstemmer.english_stemmer") 473
 | _=>Value.str (Str.ofString "law_is0019_02") 2403
noncomputable def Fn2.qual (f:Fn2):Str:=match f.cl with
 | some c=>c++"."++f.nm
 | none=>f.nm
noncomputable def jI (f:Fn2) (r:eS):Obj:=match f.dfn with
 | some (a,b,sc)=>⟨.type "function",none,.func { name:=f.nm,qualname:=f.qual,params:=a,body:=.stmts b,scope:=sc,globals:=3,closure:=[],defaults:=.none,kwdefaults:=.none,pyModule:=Et r.pm,code:=.ref (r.a - 1)},#[]⟩
 | none=>default
noncomputable def Hv (f:Fn2) (r:eS) (np:Nat):Obj:=⟨.type "code",none,.fields #[.str f.nm r.t,.str f.qual (r.t+1),.str "/claim/cut.py" (r.t+2),.int r.l 0,.int np 0,.int 0 0,.int 0 0,.int 3 0,.ref (if r.full then r.a - 6 else r.a - 4),.bool true,.int 181 0,.ref (if r.full then r.a - 5 else r.a - 3),.none,if r.full then .ref (r.a - 4) else .none,if r.full then .ref (r.a - 3) else .none,.ref (r.a - 2),.int r.u 0,.int r.l 0,.str "/claim/cut.py" (r.u+1)],#[]⟩
noncomputable def sr:List Fn2→List eS→List (Nat×Obj)
 | f :: fs,r :: rs=>(r.a,jI f r) :: (r.a - 1,Hv f r (f.dfn.elim 0 fun d=>d.1.args.length)) :: sr fs rs
 | _,_=>[]
noncomputable def nU:Addr→Nat→List (List Nat×List Nat)→List (Nat×Obj)
 | _,_,[]=>[]
 | a,t,e :: l=>(a,⟨.type "tuple",none,.seq #[.str (txt e.1) t,.str (txt e.2) (t+1)] 0,#[]⟩) :: nU (a+1) (t+2) l
noncomputable def k9:Addr→Nat→List Value
 | _,0=>[]
 | a,n+1=>.ref a :: k9 (a+1) n
noncomputable def io (a:Addr) (l:List (List Nat×List Nat)):Nat×Obj:=(a+l.length,⟨.type "list",none,.seq (k9 a l.length).toArray 0,#[]⟩)
noncomputable def ki:Nat→List (List Nat)→List Value
 | _,[]=>[]
 | t,s :: l=>.str (txt s) t :: ki (t+1) l
noncomputable def tks:List Nat:=[689,825,867,950,993,1092,1186,1357,1699,1825,2076,2105]
noncomputable def nV (P:Params):List (Addr×List Row)→List Nat→List (Nat×Obj)
 | t :: r,k :: ks=>lsO t.1 t.2 :: (cS P t.1 k t.2++nV P r ks)
 | _,_=>[]
theorem kj {P:Params}{t:Addr×List Row} : ∀ {l:List (Addr×List Row)}{ks:List Nat},t∈l→l.length≤ks.length→∃ k,∀ q∈lsO t.1 t.2 :: cS P t.1 k t.2,q∈nV P l ks
 | x :: l,k :: ks,m,h=>by
  rcases List.mem_cons.mp m with rfl | m
  ·exact ⟨k,fun q hq=>(List.mem_cons.mp hq).elim (fun e=>e▸aam) fun z=>aag _ (List.mem_append_left _ z)⟩
  ·obtain ⟨k',z⟩:=kj m (Nat.le_of_succ_le_succ h)
   exact ⟨k',fun q hq=>aag _ (aao _ (z q hq))⟩
 | _ :: _,[],_,h=>absurd h (Nat.not_succ_le_zero _)
noncomputable def Bv:Obj:=⟨.type "tuple",none,.seq (ki 2323 kh).toArray 0,#[]⟩
noncomputable def k_2 (P:Params):Obj :=
{ cls:=Value.none,
  data :=
   PySem.Data.dict
    #[{ hash:=PyData.keyHash P (Str.ofString "type.__subclasses__.Exception.0"),key:=Value.str (Str.ofString "type.__subclasses__.Exception.0") 2359,
        val:=Value.int 718 0},
     { hash:=PyData.keyHash P (Str.ofString "type.__subclasses__.Exception.n"),key:=Value.str (Str.ofString "type.__subclasses__.Exception.n") 2360,
       val:=Value.int 3 0},
     { hash:=PyData.keyHash P (Str.ofString "type.__subclasses__.Exception.1"),key:=Value.str (Str.ofString "type.__subclasses__.Exception.1") 2379,
       val:=Value.int 731 0},
     { hash:=PyData.keyHash P (Str.ofString "type.__subclasses__.Exception.2"),key:=Value.str (Str.ofString "type.__subclasses__.Exception.2") 2399,
       val:=Value.int 744 0}]
    4}
noncomputable def k_3 (P:Params):Obj :=
{ cls:=Value.type "dict",
  data :=
   PySem.Data.dict
    #[{ hash:=PyData.keyHash P (Str.ofString "__name__"),key:=Value.str (Str.ofString "__name__") 165,
        val:=Value.str (Str.ofString "law_is0019_02") 2403},
     kE P "__doc__" 166 (Value.none),
     kE P "__package__" 167 (Value.none),
     kE P "__loader__" 168 (Value.builtin "__main__.__loader__#opaque"),
     kE P "__spec__" 169 (Value.none),
     kE P "__annotations__" 170 (Value.ref 6),
     kE P "__builtins__" 171 (Value.ref 4),
     kE P "__file__" 173 (Value.str (Str.ofString "/claim/cut.py") 172),
     kE P "__cached__" 174 (Value.none),
     kE P "_wall" 193 (Value.ref 21),
     kE P "BaseStemmer" 437 (Value.ref 199),
     kE P "Among" 472 (Value.ref 220),
     kE P "EnglishStemmer" 2342 (Value.ref 706),
     kE P "lab0" 2362 (Value.ref 718),
     kE P "lab1" 2382 (Value.ref 731),
     kE P "lab2" 2402 (Value.ref 744),
     kE P "_law_parts" 2410 (Value.ref 754),
     kE P "_law_pairs" 2416 (Value.ref 761),
     kE P "_law_left" 2422 (Value.ref 768),
     kE P "_law_swapped" 2428 (Value.ref 775),
     kE P "_law_fronts" 2434 (Value.ref 782),
     kE P "_law_near" 2491 (Value.ref 811),
     kE P "_law_far" 2518 (Value.ref 825),
     kE P "_law_vowel" 2525 (Value.ref 832),
     kE P "_law_kinds" 2531 (Value.ref 837),
     kE P "_law_marked" 2540 (Value.ref 844),
     kE P "_law_behind" 2548 (Value.ref 851),
     kE P "_law_moves" 2561 (Value.ref 858),
     kE P "_law_rests" 2573 (Value.ref 865),
     kE P "_law_four" 2580 (Value.ref 872),
     kE P "law" 2586 (Value.ref 877)]
    31}
noncomputable def Gz (P:Params):Obj :=
{ cls:=Value.type "dict",
  data :=
   PySem.Data.dict
    #[{ hash:=PyData.keyHash P (Str.ofString "__module__"),key:=Value.str (Str.ofString "__module__") 203,
        val:=Value.str (Str.ofString "snowballstemmer.basestemmer") 194},
     kE P "__firstlineno__" 207 (Value.int 5 206),
     kE P "__init__" 214 (Value.ref 35),
     kE P "set_current" 222 (Value.ref 42),
     kE P "get_current" 229 (Value.ref 49),
     kE P "copy_from" 237 (Value.ref 56),
     kE P "in_grouping" 245 (Value.ref 63),
     kE P "go_in_grouping" 253 (Value.ref 70),
     kE P "in_grouping_b" 261 (Value.ref 77),
     kE P "go_in_grouping_b" 269 (Value.ref 84),
     kE P "out_grouping" 277 (Value.ref 91),
     kE P "go_out_grouping" 285 (Value.ref 98),
     kE P "out_grouping_b" 293 (Value.ref 105),
     kE P "go_out_grouping_b" 301 (Value.ref 112),
     kE P "eq_s" 309 (Value.ref 119),
     kE P "eq_s_b" 317 (Value.ref 126),
     kE P "find_among" 337 (Value.ref 133),
     kE P "find_among_b" 357 (Value.ref 140),
     kE P "replace_s" 368 (Value.ref 147),
     kE P "slice_from" 376 (Value.ref 154),
     kE P "slice_del" 383 (Value.ref 161),
     kE P "insert" 393 (Value.ref 168),
     kE P "slice_to" 400 (Value.ref 175),
     kE P "assign_to" 407 (Value.ref 182),
     kE P "stemWord" 415 (Value.ref 189),
     kE P "stemWords" 423 (Value.ref 196),
     kE P "__static_attributes__" 430 (Value.ref 197),
     kE P "__dict__" 432 (Value.ref 200),
     kE P "__weakref__" 434 (Value.ref 201),
     kE P "__doc__" 435 (Value.none)]
    4}
noncomputable def GA (P:Params):Obj :=
{ cls:=Value.type "type",
  data :=
   PySem.Data.cls
    { name:=Str.ofString "BaseStemmer",bases:=[Value.type "object"],mro:=[Value.ref 199,Value.type "object"],ns:=198,
      qualname:=Str.ofString "BaseStemmer",subclasses:=[Value.ref 706]},
  slots :=
   #[Option.none,Option.none,Option.some (Value.str (Str.ofString "BaseStemmer") 196),Option.some (Value.str (Str.ofString "BaseStemmer") 204),
    Option.some (Value.builtin "object.__new__"),Option.some (Value.bool Bool.true)]}
noncomputable def GB (P:Params):Obj :=
{ cls:=Value.type "dict",
  data :=
   PySem.Data.dict
    #[{ hash:=PyData.keyHash P (Str.ofString "__module__"),key:=Value.str (Str.ofString "__module__") 447,
        val:=Value.str (Str.ofString "snowballstemmer.among") 438},
     kE P "__firstlineno__" 451 (Value.int 212 450),
     kE P "__init__" 461 (Value.ref 217),
     kE P "__static_attributes__" 465 (Value.ref 218),
     kE P "__dict__" 467 (Value.ref 221),
     kE P "__weakref__" 469 (Value.ref 222),
     kE P "__doc__" 470 (Value.none)]
    4}
noncomputable def GC (P:Params):Obj :=
{ cls:=Value.type "type",
  data :=
   PySem.Data.cls
    { name:=Str.ofString "Among",bases:=[Value.type "object"],mro:=[Value.ref 220,Value.type "object"],ns:=219,qualname:=Str.ofString "Among"},
  slots :=
   #[Option.none,Option.none,Option.some (Value.str (Str.ofString "Among") 440),Option.some (Value.str (Str.ofString "Among") 448),
    Option.some (Value.builtin "object.__new__"),Option.some (Value.bool Bool.true)]}
noncomputable def GD (P:Params):Obj :=
{ cls:=Value.type "dict",
  data :=
   PySem.Data.dict
    #[{ hash:=PyData.keyHash P (Str.ofString "__module__"),key:=Value.str (Str.ofString "__module__") 482,
        val:=Value.str (Str.ofString "snowballstemmer.english_stemmer") 473},
     kE P "__firstlineno__" 486 (Value.int 219 485),
     kE P "g_aeo" 488 (Value.str (Str.ofString "aeo") 487),
     kE P "g_v" 501 (Value.ref 232),
     kE P "g_v_WXY" 520 (Value.ref 233),
     kE P "g_valid_LI" 541 (Value.ref 234),
     kE P "B_Y_found" 542 (Value.bool Bool.false),
     kE P "I_p2" 544 (Value.int 0 543),
     kE P "I_p1" 546 (Value.int 0 545),
     kE P "r_prelude" 558 (Value.ref 241),
     kE P "r_mark_regions" 567 (Value.ref 248),
     kE P "r_shortv" 575 (Value.ref 255),
     kE P "r_R1" 582 (Value.ref 262),
     kE P "r_R2" 589 (Value.ref 269),
     kE P "r_Step_1a" 599 (Value.ref 276),
     kE P "r_Step_1b" 615 (Value.ref 283),
     kE P "r_Step_1c" 622 (Value.ref 290),
     kE P "r_Step_2" 630 (Value.ref 297),
     kE P "r_Step_3" 638 (Value.ref 304),
     kE P "r_Step_4" 646 (Value.ref 311),
     kE P "r_Step_5" 655 (Value.ref 318),
     kE P "r_exception1" 663 (Value.ref 325),
     kE P "r_postlude" 672 (Value.ref 332),
     kE P "_stem" 688 (Value.ref 339),
     kE P "a_0" 824 (Value.ref 367),
     kE P "a_1" 866 (Value.ref 377),
     kE P "a_2" 949 (Value.ref 396),
     kE P "a_3" 992 (Value.ref 406),
     kE P "a_4" 1091 (Value.ref 428),
     kE P "a_5" 1185 (Value.ref 450),
     kE P "a_6" 1356 (Value.ref 490),
     kE P "a_7" 1698 (Value.ref 566),
     kE P "a_8" 1824 (Value.ref 594),
     kE P "a_9" 2075 (Value.ref 649),
     kE P "a_10" 2104 (Value.ref 656),
     kE P "a_11" 2322 (Value.ref 702),
     kE P "as_11" 2331 (Value.ref 703),
     kE P "__static_attributes__" 2339 (Value.ref 704),
     kE P "__doc__" 2340 (Value.none)]
    2}
noncomputable def GE (P:Params):Obj :=
{ cls:=Value.type "type",
  data :=
   PySem.Data.cls
    { name:=Str.ofString "EnglishStemmer",bases:=[Value.ref 199],mro:=[Value.ref 706,Value.ref 199,Value.type "object"],ns:=705,
      qualname:=Str.ofString "EnglishStemmer"},
  slots :=
   #[Option.some (Value.ref 225),Option.none,Option.some (Value.str (Str.ofString "EnglishStemmer") 475),Option.some (Value.str (Str.ofString "EnglishStemmer") 483),
    Option.some (Value.builtin "object.__new__"),Option.some (Value.bool Bool.true)]}
noncomputable def wQ (P:Params):Obj :=
{ cls:=Value.type "dict",
  data :=
   PySem.Data.dict
    #[{ hash:=PyData.keyHash P (Str.ofString "__module__"),key:=Value.str (Str.ofString "__module__") 2350,
        val:=Value.str (Str.ofString "snowballstemmer.english_stemmer") 473},
     kE P "__firstlineno__" 2354 (Value.int 754 2353),
     kE P "__static_attributes__" 2355 (Value.ref 716),
     kE P "__weakref__" 2357 (Value.ref 719),
     kE P "__doc__" 2358 (Value.none)]
    3}
noncomputable def wR (P:Params):Obj :=
{ cls:=Value.type "type",
  data :=
   PySem.Data.cls
    { name:=Str.ofString "lab0",bases:=[Value.type "Exception"],
      mro:=[Value.ref 718,Value.type "Exception",Value.type "BaseException",Value.type "object"],ns:=717,qualname:=Str.ofString "lab0"},
  slots :=
   #[Option.some (Value.ref 709),Option.none,Option.some (Value.str (Str.ofString "lab0") 2343),Option.some (Value.str (Str.ofString "lab0") 2351),
    Option.some (Value.builtin "Exception.__new__"),Option.some (Value.bool Bool.true)]}
noncomputable def wS (P:Params):Obj :=
{ cls:=Value.type "dict",
  data :=
   PySem.Data.dict
    #[{ hash:=PyData.keyHash P (Str.ofString "__module__"),key:=Value.str (Str.ofString "__module__") 2370,
        val:=Value.str (Str.ofString "snowballstemmer.english_stemmer") 473},
     kE P "__firstlineno__" 2374 (Value.int 756 2373),
     kE P "__static_attributes__" 2375 (Value.ref 729),
     kE P "__weakref__" 2377 (Value.ref 732),
     kE P "__doc__" 2378 (Value.none)]
    3}
noncomputable def wT (P:Params):Obj :=
{ cls:=Value.type "type",
  data :=
   PySem.Data.cls
    { name:=Str.ofString "lab1",bases:=[Value.type "Exception"],
      mro:=[Value.ref 731,Value.type "Exception",Value.type "BaseException",Value.type "object"],ns:=730,qualname:=Str.ofString "lab1"},
  slots :=
   #[Option.some (Value.ref 722),Option.none,Option.some (Value.str (Str.ofString "lab1") 2363),Option.some (Value.str (Str.ofString "lab1") 2371),
    Option.some (Value.builtin "Exception.__new__"),Option.some (Value.bool Bool.true)]}
noncomputable def wU (P:Params):Obj :=
{ cls:=Value.type "dict",
  data :=
   PySem.Data.dict
    #[{ hash:=PyData.keyHash P (Str.ofString "__module__"),key:=Value.str (Str.ofString "__module__") 2390,
        val:=Value.str (Str.ofString "snowballstemmer.english_stemmer") 473},
     kE P "__firstlineno__" 2394 (Value.int 758 2393),
     kE P "__static_attributes__" 2395 (Value.ref 742),
     kE P "__weakref__" 2397 (Value.ref 745),
     kE P "__doc__" 2398 (Value.none)]
    3}
noncomputable def wV (P:Params):Obj :=
{ cls:=Value.type "type",
  data :=
   PySem.Data.cls
    { name:=Str.ofString "lab2",bases:=[Value.type "Exception"],
      mro:=[Value.ref 744,Value.type "Exception",Value.type "BaseException",Value.type "object"],ns:=743,qualname:=Str.ofString "lab2"},
  slots :=
   #[Option.some (Value.ref 735),Option.none,Option.some (Value.str (Str.ofString "lab2") 2383),Option.some (Value.str (Str.ofString "lab2") 2391),
    Option.some (Value.builtin "Exception.__new__"),Option.some (Value.bool Bool.true)]}
noncomputable def pz (P:Params):List (Nat×Obj):=[(2,k_2 P),(3,k_3 P),(198,Gz P),(199,GA P),(219,GB P),(220,GC P),(705,GD P),(706,GE P),(717,wQ P),(718,wR P),(730,wS P),(731,wT P),(743,wU P),(744,wV P),(703,Bv),io 783 eL,io 812 gA]++(sr gB cT++(sr fS dP++(nU 783 2435 eL++(nU 812 2492 gA++nV P tbs tks))))
noncomputable abbrev jJ (P:Params):List (Nat×Obj):=ob0 P++(ob1 P++(ob2 P++(ob3 P)))
noncomputable abbrev Eu (P:Params):List (Nat×Obj):=(227,bb P 29) :: (2,o_2 P) :: (3,o_3 P) :: jJ P
theorem Hw (w:World) (os:OsState) (life:Life) (gens:Array GenState) (drawn:Drawn) (X:Nat→Obj) (k1:Result→Sem Fin) (l1 kept1:List Value) (b1:List Stmt) (e1:Env) (p1 p2 pos:Pos) :
 (segGoT treeTable pw w 340 (some (.ref 227)) 0 3644 ⟨cV (ov X (gk w.params 25)) 340,340,life,gens,drawn,689,os⟩ ⟨aW aM (bj.drop 22),bO,pos,[.ret k1 none false l1 (.body b1 e1) p1 kept1,topFrame p2]⟩).map (dn (Eu w.params)) =
  fj (Eu w.params) ⟨aW aM (bj.drop 26),bO,⟨744,4,744,7⟩,[.ret k1 none false l1 (.body b1 e1) p1 kept1,topFrame p2]⟩ 407 life gens drawn 993 os:=by
 unfold aW
 rw [PySem.W.Fast.te10295753902157049106,PySem.W.Fast.te12563942051412417395,PySem.W.Fast.te9442747609961115081,PySem.W.R.bindR_eq,PySem.W.R.onRaiseR_eq]
 kernel_rfl
noncomputable abbrev kn (P:Params):List (Nat×Obj):=ob4 P++(ob5 P++(ob6 P))
noncomputable abbrev Ev (P:Params):List (Nat×Obj):=(227,bb P 32) :: (2,o_2 P) :: (3,o_3 P) :: kn P
theorem Hx (w:World) (os:OsState) (life:Life) (gens:Array GenState) (drawn:Drawn) (X:Nat→Obj) (k1:Result→Sem Fin) (l1 kept1:List Value) (b1:List Stmt) (e1:Env) (p1 p2 pos:Pos) :
 (segGoT treeTable pw w 407 (some (.ref 227)) 0 4538 ⟨cV (ov X (gk w.params 29)) 407,407,life,gens,drawn,993,os⟩ ⟨aW aM (bj.drop 26),bO,pos,[.ret k1 none false l1 (.body b1 e1) p1 kept1,topFrame p2]⟩).map (dn (Ev w.params)) =
  fj (Ev w.params) ⟨aW aM (bj.drop 29),bO,⟨747,4,747,7⟩,[.ret k1 none false l1 (.body b1 e1) p1 kept1,topFrame p2]⟩ 491 life gens drawn 1357 os:=by
 unfold aW
 rw [PySem.W.Fast.te10295753902157049106,PySem.W.Fast.te12563942051412417395,PySem.W.Fast.te9442747609961115081,PySem.W.R.bindR_eq,PySem.W.R.onRaiseR_eq]
 kernel_rfl
noncomputable abbrev mA (P:Params):List (Nat×Obj):=ob7 P
noncomputable abbrev Ew (P:Params):List (Nat×Obj):=(227,bb P 33) :: (2,o_2 P) :: (3,o_3 P) :: mA P
theorem Hy (w:World) (os:OsState) (life:Life) (gens:Array GenState) (drawn:Drawn) (X:Nat→Obj) (k1:Result→Sem Fin) (l1 kept1:List Value) (b1:List Stmt) (e1:Env) (p1 p2 pos:Pos) :
 (segGoT treeTable pw w 491 (some (.ref 227)) 0 4216 ⟨cV (ov X (gk w.params 32)) 491,491,life,gens,drawn,1357,os⟩ ⟨aW aM (bj.drop 29),bO,pos,[.ret k1 none false l1 (.body b1 e1) p1 kept1,topFrame p2]⟩).map (dn (Ew w.params)) =
  fj (Ew w.params) ⟨aW aM (bj.drop 30),bO,⟨748,4,748,7⟩,[.ret k1 none false l1 (.body b1 e1) p1 kept1,topFrame p2]⟩ 567 life gens drawn 1699 os:=by
 unfold aW
 rw [PySem.W.Fast.te10295753902157049106,PySem.W.Fast.te12563942051412417395,PySem.W.Fast.te9442747609961115081,PySem.W.R.bindR_eq,PySem.W.R.onRaiseR_eq]
 kernel_rfl
noncomputable abbrev pA (P:Params):List (Nat×Obj):=ob8 P++(ob9 P)
noncomputable abbrev Ey (P:Params):List (Nat×Obj):=(227,bb P 35) :: (2,o_2 P) :: (3,o_3 P) :: pA P
theorem Hz (w:World) (os:OsState) (life:Life) (gens:Array GenState) (drawn:Drawn) (X:Nat→Obj) (k1:Result→Sem Fin) (l1 kept1:List Value) (b1:List Stmt) (e1:Env) (p1 p2 pos:Pos) :
 (segGoT treeTable pw w 567 (some (.ref 227)) 0 4597 ⟨cV (ov X (gk w.params 33)) 567,567,life,gens,drawn,1699,os⟩ ⟨aW aM (bj.drop 30),bO,pos,[.ret k1 none false l1 (.body b1 e1) p1 kept1,topFrame p2]⟩).map (dn (Ey w.params)) =
  fj (Ey w.params) ⟨aW aM (bj.drop 32),bO,⟨750,4,750,7⟩,[.ret k1 none false l1 (.body b1 e1) p1 kept1,topFrame p2]⟩ 650 life gens drawn 2076 os:=by
 unfold aW
 rw [PySem.W.Fast.te10295753902157049106,PySem.W.Fast.te12563942051412417395,PySem.W.Fast.te9442747609961115081,PySem.W.R.bindR_eq,PySem.W.R.onRaiseR_eq]
 kernel_rfl
noncomputable abbrev su (P:Params):List (Nat×Obj):=Ht P++(Hu P)
noncomputable abbrev Ez (P:Params):List (Nat×Obj):=(227,bb P 37) :: (2,o_2 P) :: (3,o_3 P) :: su P
theorem HA (w:World) (os:OsState) (life:Life) (gens:Array GenState) (drawn:Drawn) (X:Nat→Obj) (k1:Result→Sem Fin) (l1 kept1:List Value) (b1:List Stmt) (e1:Env) (p1 p2 pos:Pos) :
 (segGoT treeTable pw w 650 (some (.ref 227)) 0 2947 ⟨cV (ov X (gk w.params 35)) 650,650,life,gens,drawn,2076,os⟩ ⟨aW aM (bj.drop 32),bO,pos,[.ret k1 none false l1 (.body b1 e1) p1 kept1,topFrame p2]⟩).map (dn (Ez w.params)) =
  fj (Ez w.params) ⟨aW aM (bj.drop 34),bO,⟨752,4,752,8⟩,[.ret k1 none false l1 (.body b1 e1) p1 kept1,topFrame p2]⟩ 703 life gens drawn 2323 os:=by
 unfold aW
 rw [PySem.W.Fast.te10295753902157049106,PySem.W.Fast.te12563942051412417395,PySem.W.Fast.te9442747609961115081,PySem.W.R.bindR_eq,PySem.W.R.onRaiseR_eq]
 kernel_rfl
noncomputable def S0 (w:World) (os:OsState):SharedT:=⟨cV (atO (boot_heap w.params)) 11,11,(boot_heap w.params).life,#[],boot_drawn,boot_toks,os⟩
noncomputable def wW (w:World) (os:OsState):Option (SharedT×Thread):=PySem.W.Fast.tw10295753902157049106 treeTable pw w 11 (some (.ref 6)) 0 1355 (S0 w os) (topStub pw)
theorem Cu (w:World) (os:OsState):segGoT treeTable pw w 11 (some (.ref 6)) 0 1355 (S0 w os) (topStub pw)=wW w os:=by
 rw [PySem.W.Fast.te10295753902157049106];rfl
noncomputable def aT (w:World) (os:OsState):List Frame:=((wW w os).map (·.2.stack)).getD []
noncomputable def fD (w:World) (os:OsState) (i:Nat):Obj:=((wW w os).map fun r=>(r.1.tree.get i).getD default).getD default
noncomputable def fr1:List Frame→(Result→Sem Fin)×List Value×List Stmt×Env×Pos×List Value
 | .ret k _ _ l (.body b e) p kept :: _=>(k,l,b,e,p,kept)
 | _=>(fun zz=>.unsupported "",[],[],default,default,[])
noncomputable def lh (x:(Result→Sem Fin)×List Value×List Stmt×Env×Pos×List Value):List Frame:=[.ret x.1 none false x.2.1 (.body x.2.2.1 x.2.2.2.1) x.2.2.2.2.1 x.2.2.2.2.2,topFrame ⟨0,0,0,0⟩]
noncomputable abbrev ps0 (P:Params):List (Nat×Obj):=[(227,bb P 4),(2,o_2 P),(3,o_3 P),(216,nO P),(217,nP P),(219,nQ P),(220,nR P),(4,o_4),(229,qK),(230,k8)]
noncomputable def c7 (o:Option Obj):Bool:=match o with
 | some ⟨_,_,.freed,_⟩=>false
 | some _=>true
 | none=>false
theorem Cv (w:World) (os:OsState):(wW w os).map (fun r=>(dn (ps0 w.params) r,(List.range 227).all fun i=>c7 (r.1.tree.get i)))=(fj (ps0 w.params) ⟨aW aM (bj.drop 1),bO,⟨220,4,220,9⟩,lh (fr1 (aT w os))⟩ 232 (boot_heap w.params).life #[] boot_drawn 489 os).map (·,true):=by
 unfold aW
 rw [PySem.W.Fast.te12563942051412417395,PySem.W.Fast.te9442747609961115081,PySem.W.R.bindR_eq,PySem.W.R.onRaiseR_eq]
 kernel_rfl
noncomputable def eM:List (Nat×Obj):=sr ((gB.drop 15).take 15) ((cT.drop 15).take 15)
noncomputable abbrev psP (P:Params) (X:Nat→Obj):List (Nat×Obj):=(227,bb P 25) :: (2,o_2 P) :: (3,o_3 P) :: (228,X 228) :: (231,X 231) :: (232,X 232) :: (233,X 233) :: (234,X 234) :: eM
noncomputable def LP (P:Params):List (Nat×Obj):=[(227,bb P 7),(3,o_3 P),(4,o_4),(229,qK),(230,k8),(2,o_2 P)]
theorem pcP (w:World) (os:OsState) (life:Life) (gens:Array GenState) (drawn:Drawn) (X:Nat→Obj) (k1:Result→Sem Fin) (l1 kept1:List Value) (b1:List Stmt) (e1:Env) (p1 p2 pos:Pos) :
 (segGoT treeTable pw w 227 (some (.ref 227)) 0 516 ⟨cV (ov X (LP w.params)) 235,235,life,gens,drawn,542,os⟩ ⟨aW aM (bj.drop 4),bO,pos,[.ret k1 none false l1 (.body b1 e1) p1 kept1,topFrame p2]⟩).map (dn (psP w.params X)) =
  fj (psP w.params X) ⟨aW aM (bj.drop 22),bO,⟨688,4,740,19⟩,[.ret k1 none false l1 (.body b1 e1) p1 kept1,topFrame p2]⟩ 340 life gens drawn 689 os:=by
 unfold aW
 rw [PySem.W.Fast.te10295753902157049106,PySem.W.Fast.te12563942051412417395,PySem.W.Fast.te9442747609961115081,PySem.W.R.bindR_eq,PySem.W.R.onRaiseR_eq]
 kernel_rfl
noncomputable def eh:List Str:=["_wall","BaseStemmer","Among","EnglishStemmer","lab0","lab1","lab2","_law_parts","_law_pairs","_law_left","_law_swapped","_law_fronts","_law_near","_law_far","_law_vowel","_law_kinds","_law_marked","_law_behind","_law_moves","_law_rests","_law_four"]
noncomputable def GF:Stmt:=(pw.main.body.getLast?).getD default
noncomputable abbrev q01:Program:={ pw with main:={ pw.main with body:=[GF]}}
structure cR where
 X:Nat→Obj
 es:Nat→Array (Int×Value)
 ep:Nat→Nat
 st:Nat→SetTable
noncomputable def c8 (R:cR) (a:Nat):Nat×Obj:=(a,⟨.type "set",none,.set (R.es a) (R.ep a) (R.st a),#[]⟩)
noncomputable def nW (P:Params):List (Nat×Obj):=jJ P++(kn P++(mA P++(pA P++su P)))
noncomputable def LT (P:Params) (R:cR):List (Nat×Obj):=(227,bb P 37) :: c8 R 232 :: c8 R 233 :: c8 R 234 :: (eM++nW P)
noncomputable def lj (w:World) (os:OsState) (X:Nat→Obj) (i:Nat):Obj:=match Nat.blt i 227 with
 | true=>fD w os i
 | false=>X i
noncomputable def Af (w:World) (os:OsState) (R:cR):Option (Flow×SharedT×Code×Pos) :=
 PySem.W.Fast.tw10110043849684766642 treeTable pw w 11 (some (.ref 6)) 0 1400 ⟨cV (ov (lj w os R.X) (LT w.params R)) 703,703,(boot_heap w.params).life,#[],boot_drawn,2323,os⟩ ⟨aW aM (bj.drop 34),bO,⟨752,4,752,8⟩,lh (fr1 (aT w os))⟩
noncomputable abbrev wX (P:Params) (R:cR) (r:Flow×SharedT×Code×Pos):=((staticsOk (importedModules pw.main.body) (boot_heap P) r.2.1.abs.heap&&namesBound pw r.2.1.abs.heap&&gensDone r.2.1.abs&&laidKept (boot_heap P) r.2.1.abs.heap),openSeen q01 eh (importedModules pw.main.body) (fun zz=>true) true r.2.1.abs,r.2.1.n,r.2.1.life,r.2.1.gens,r.2.1.drawn,r.2.1.toks,r.2.1.os,(pz P).map fun q=>r.2.1.tree.get q.1,r.2.1.tree.get 232,r.2.1.tree.get 233,r.2.1.tree.get 234)
theorem Cw (w:World) (os:OsState) (R:cR):(Af w os R).map (wX w.params R)=some (true,openGood q01 eh,878,(boot_heap w.params).life,#[],boot_drawn,2587,os,(pz w.params).map fun q=>some q.2,some (c8 R 232).2,some (c8 R 233).2,some (c8 R 234).2):=by
 unfold Af aW wX
 rw [PySem.W.Fast.te4187177175401517315,PySem.W.Fast.te12563942051412417395,PySem.W.Fast.te9442747609961115081,PySem.W.R.bindR_eq,PySem.W.R.onRaiseR_eq]
 kernel_rfl
noncomputable def yq (e:Expr):Str×Pos:=if h:e.ctorIdx=23 then Expr.Name.elim (motive_1:=fun zz=>Str×Pos) e h (fun n p=>(n,p)) else ("",default)
noncomputable def wY (e:Expr):List Expr×Pos:=if h:e.ctorIdx=7 then Expr.Set.elim (motive_1:=fun zz=>List Expr×Pos) e h (fun es zz p=>(es,p)) else ([],default)
noncomputable def GH (e:Const):Str:=if h:e.ctorIdx=5 then Const.str.elim (motive:=fun zz=>Str) e h (fun s=>s) else ""
noncomputable def asC (e:Expr):Str×Nat×Pos:=if h:e.ctorIdx=19 then Expr.Constant.elim (motive_1:=fun zz=>Str×Nat×Pos) e h (fun k n p=>(GH k,n,p)) else ("",0,default)
noncomputable def EA (t v:Expr) (p3:Pos):cm:=⟨(yq t).1,(wY v).1,(wY v).1.map fun e=>(asC e).1,(yq t).2,(wY v).2,p3⟩
noncomputable def am (i:Nat):cm :=
 let s:=bj.getD i default
 if h:s.ctorIdx=5 then Stmt.Assign.elim (motive_2:=fun zz=>cm) s h (fun ts v p3=>EA (ts.headD default) v p3) else ⟨"",[],[],default,default,default⟩
theorem yr:bj.drop 1=(am 1).st :: (am 2).st :: (am 3).st :: bj.drop 4:=by kernel_rfl
theorem Cy:aM.scope.kind = .class:=by kernel_rfl
theorem Cz:oY (am 1).es (am 1).xs:=⟨(am 1).es.map asC,by kernel_rfl,by kernel_rfl⟩
theorem CA:oY (am 2).es (am 2).xs:=⟨(am 2).es.map asC,by kernel_rfl,by kernel_rfl⟩
theorem CB:oY (am 3).es (am 3).xs:=⟨(am 3).es.map asC,by kernel_rfl,by kernel_rfl⟩
theorem kq:(am 1).xs=(["a","e","i","o","u","y"]:List Str):=by kernel_rfl
theorem kr:(am 2).xs=(["Y","a","e","i","o","u","w","x","y"]:List Str):=by kernel_rfl
theorem kt:(am 3).xs=(["c","d","e","g","h","k","m","n","r","t"]:List Str):=by kernel_rfl
theorem ok1:(am 1).Ok aM:=⟨Cz,by kernel_rfl,by rw [kq];decide,by rw [kq];decide +kernel,by kernel_rfl⟩
theorem ok2:(am 2).Ok aM:=⟨CA,by kernel_rfl,by rw [kr];decide,by rw [kr];decide +kernel,by kernel_rfl⟩
theorem ok3:(am 3).Ok aM:=⟨CB,by kernel_rfl,by rw [kt];decide,by rw [kt];decide +kernel,by kernel_rfl⟩
theorem tk1:(am 1).tk 489=502:=by kernel_rfl
theorem tk2:(am 2).tk 502=521:=by kernel_rfl
theorem tk3:(am 3).tk 521=542:=by kernel_rfl
theorem ns5 (w:World):Obj.putName (am 1).nm (dl w (am 1).nm) (.str (am 1).nm (489+(am 1).xs.length+(am 1).xs.length)) (.ref 232) (bb w.params 4)=bb w.params 5:=by kernel_rfl
theorem ns6 (w:World):Obj.putName (am 2).nm (dl w (am 2).nm) (.str (am 2).nm (502+(am 2).xs.length+(am 2).xs.length)) (.ref 233) (bb w.params 5)=bb w.params 6:=by kernel_rfl
theorem ns7 (w:World):Obj.putName (am 3).nm (dl w (am 3).nm) (.str (am 3).nm (521+(am 3).xs.length+(am 3).xs.length)) (.ref 234) (bb w.params 6)=bb w.params 7:=by kernel_rfl
theorem Ag (P:Params) (H:Heap) (h:H.get? 227=some (bb P 4)):i4 H 227:=⟨(Bt P).take 4,4,h,by kernel_rfl⟩
theorem HB:(am 3).p1=⟨223,4,223,14⟩:=by kernel_rfl
theorem bY {w:World}{xs:List (Str×Tok)}{o:Obj}(h:aJ w xs o):∃ es ep t,o=⟨.type "set",none,.set es ep t,#[]⟩:=by
 obtain ⟨es,ep,t,e,_,_⟩:=h
 exact ⟨es,ep,t,e⟩
theorem Ah {w:World}{xs:List (Str×Tok)}{o:Obj}(h:aJ w xs o) (H:Heap):(H.push o).get? H.objs.size=some o:=by
 obtain ⟨es,ep,t,rfl⟩:=bY h
 exact Heap.get?_push_size _ rfl
section
variable {w:World}{t:cm}{a:Addr}{H:Heap}{tk:Nat}{o:Obj}
theorem ku:(t.heap w a H tk o).objs.size=H.objs.size+1:=by
 unfold cm.heap
 rw [Heap.size_update,Heap.size_push]
theorem kv {x:Obj}(h:H.get? a=some x) (hx:∀ o',Obj.putName t.nm (dl w t.nm) (.str t.nm (tk+t.xs.length+t.xs.length)) (.ref H.objs.size) x=o'→alive o'=some o'):(t.heap w a H tk o).get? a=some (Obj.putName t.nm (dl w t.nm) (.str t.nm (tk+t.xs.length+t.xs.length)) (.ref H.objs.size) x):=by
 unfold cm.heap
 have e:=Heap.get?_push_of_some o h
 have:=hx _ rfl
 refine Heap.get?_update_self _ e ?_
 revert this
 generalize Obj.putName t.nm (dl w t.nm) (.str t.nm (tk+t.xs.length+t.xs.length)) (.ref H.objs.size) x=y
 obtain ⟨c,d,dt,sl⟩:=y
 intro q
 cases dt<;>first | rfl | injection q
theorem ej {b:Addr}{x:Obj}(ne:b≠a) (h:H.get? b=some x):(t.heap w a H tk o).get? b=some x:=by
 unfold cm.heap
 rw [Heap.get?_update_ne _ _ _ _ ne]
 exact Heap.get?_push_of_some o h
theorem mB {xs:List (Str×Tok)}(ne:H.objs.size≠a) (g:aJ w xs o):(t.heap w a H tk o).get? H.objs.size=some o:=by
 unfold cm.heap
 rw [Heap.get?_update_ne _ _ _ _ ne]
 exact Ah g H
end
theorem wZ {w:World}{os:OsState}{gens:Array GenState}{drawn:Drawn}{ann:Option Value}{c:Code}{B:List Frame}{f:Frame}{pos:Pos}{H:Heap}(hs:H.objs.size=232) (h1:H.get? 227=some (bb w.params 4)) (h2:H.get? 230=some k8) :
 ∃ n H' o1 o2 o3,n≤1000∧topGo treeTable pw w 11 ann n ⟨H,gens,drawn,489,os⟩ ⟨aW aM (bj.drop 1),c,pos,f :: B⟩=some (⟨H',gens,drawn,542,os⟩,⟨aW aM (bj.drop 4),c,⟨223,4,223,14⟩,f :: B⟩) ∧
  H'.objs.size=235∧H'.life=H.life∧H'.get? 227=some (bb w.params 7)∧(aJ w (av (am 1).xs 489) o1∧H'.get? 232=some o1)∧(aJ w (av (am 2).xs 502) o2∧H'.get? 233=some o2)∧(aJ w (av (am 3).xs 521) o3∧H'.get? 234=some o3) ∧
  ∀ b x,b≠227→H.get? b=some x→H'.get? b=some x:=by
 have E:kL 11 aM H:=⟨.inr ⟨230,k8,_,rfl,by decide,h2,rfl⟩,Cy,Ag _ _ h1,by decide⟩
 obtain ⟨n,o1,o2,o3,hn,g1,g2,g3,k⟩:=vW (p:=pw) (w:=w) (ann:=ann) (c:=c) (B:=B) (f:=f) (pos:=pos) (tk:=489) (gens:=gens) (drawn:=drawn) (os:=os) (am 1) (am 2) (am 3) ok1 ok2 ok3 E (bj.drop 4)
 rw [tk1] at g2 g3 k
 rw [tk2] at g3 k
 rw [tk3,HB,← yr] at k
 have al:∀ k,alive (bb w.params k)=some (bb w.params k):=fun k=>rfl
 have s1:((am 1).heap w aM.locals H 489 o1).objs.size=233:=by rw [ku,hs]
 have s2:((am 2).heap w aM.locals ((am 1).heap w aM.locals H 489 o1) 502 o2).objs.size=234:=by rw [ku,s1]
 have a1:((am 1).heap w aM.locals H 489 o1).get? 227=some (bb w.params 5):=by
  have:=kv (w:=w) (t:=am 1) (a:=227) (H:=H) (tk:=489) (o:=o1) h1 (by rw [hs,ns5];rintro _ rfl;exact al 5)
  rw [hs,ns5] at this;exact this
 have a2:((am 2).heap w aM.locals ((am 1).heap w aM.locals H 489 o1) 502 o2).get? 227=some (bb w.params 6):=by
  have:=kv (w:=w) (t:=am 2) (a:=227) (tk:=502) (o:=o2) a1 (by rw [s1,ns6];rintro _ rfl;exact al 6)
  rw [s1,ns6] at this;exact this
 have a3:((am 3).heap w aM.locals ((am 2).heap w aM.locals ((am 1).heap w aM.locals H 489 o1) 502 o2) 521 o3).get? 227=some (bb w.params 7):=by
  have:=kv (w:=w) (t:=am 3) (a:=227) (tk:=521) (o:=o3) a2 (by rw [s2,ns7];rintro _ rfl;exact al 7)
  rw [s2,ns7] at this;exact this
 have n1:((am 1).heap w aM.locals H 489 o1).get? 232=some o1:=by
  have:=mB (t:=am 1) (a:=227) (tk:=489) (H:=H) (by rw [hs];decide) g1
  rw [hs] at this;exact this
 have n2:((am 2).heap w aM.locals ((am 1).heap w aM.locals H 489 o1) 502 o2).get? 233=some o2:=by
  have:=mB (t:=am 2) (a:=227) (tk:=502) (H:=(am 1).heap w aM.locals H 489 o1) (by rw [s1];decide) g2
  rw [s1] at this;exact this
 have n3:((am 3).heap w aM.locals ((am 2).heap w aM.locals ((am 1).heap w aM.locals H 489 o1) 502 o2) 521 o3).get? 234=some o3:=by
  have:=mB (t:=am 3) (a:=227) (tk:=521) (H:=(am 2).heap w aM.locals ((am 1).heap w aM.locals H 489 o1) 502 o2) (by rw [s2];decide) g3
  rw [s2] at this;exact this
 rw [kq,kr,kt] at hn
 refine ⟨n,_,o1,o2,o3,aaf hn (by decide),k,by rw [ku,s2],rfl,a3,⟨g1,ej (by decide) (ej (by decide) n1)⟩,⟨g2,ej (by decide) n2⟩,⟨g3,n3⟩,fun b x ne e=>?_⟩
 exact ej ne (ej ne (ej ne e))
set_option tactic.hygienic true in
theorem nY {p:Program}{w:World}{n₀:Nat}{ann:Option Value} : ∀ {n:Nat}{s s':Shared}{t:Thread}{f:Flow}{c:Code}{q:Pos},segRun treeTable p w n₀ ann 0 n s t=some (f,s',c,q)→topRun treeTable p w n₀ ann n s t=some s'
 | 0,_,_,_,_,_,_,h=>by injection h
 | n+1,s,s',t,f,c,q,h=>by
  unfold segRun at h
  unfold topRun
  have:through t=match endAt 0 t with | some _=>true | none=>false:=by
   unfold through endAt
   obtain ⟨cur,c,p,st⟩:=t
   cases st with
   | nil=>cases cur<;>try rfl
          rename_i f;cases f<;>rfl
   | cons f r=>rfl
  rw [this]
  cases he:endAt 0 t with
  | some x=>rw [he] at h;(injection h with hE;injection hE with hA hB;cases hA;(injection hB with hE;cases hE));rfl
  | none =>
   rw [he] at h
   cases hk:stepOk n₀ ann t with
   | false=>rw [hk] at h;injection h
   | true =>
    rw [hk] at h
    cases hs:step (denote treeTable) p w s t with
    | halt o s₂=>rw [hs] at h;injection h
    | go s₂ t₂=>rw [hs] at h;exact nY h
theorem fE {o:Obj}(h:c7 (some o)=true):alive o=some o:=by
 obtain ⟨c,d,dt,sl⟩:=o
 cases dt<;>first | rfl | injection h
theorem Ai {T:BT}{i n:Nat}{life:Life}(lt:i<n) (h:c7 (T.get i)=true):(absHeap T n life).get? i=some ((T.get i).getD default):=by
 cases e:T.get i with
 | none=>rw [e] at h;injection h
 | some o=>rw [e] at h;rw [abs_get lt e,fE h];rfl
theorem Bw {f g:Nat→Obj}{i:Nat} : ∀ {l:List (Nat×Obj)},(∀ p∈l,g p.1=p.2)→f i=g i→ov f l i=g i
 | [],_,h=>h
 | (a,o) :: r,h,hf=>by
  unfold ov
  cases q:Nat.beq i a with
  | true=>rw [Nat.eq_of_beq_eq_true q];exact (h (a,o) (by simp)).symm
  | false=>exact Bw (fun p hp=>h p (aag _ hp)) hf
structure StB (w:World) (os:OsState) (H:Heap) (k n:Nat) (ls:List (Nat×Obj)) (o1 o2 o3:Obj):Prop where
 size:H.objs.size=n
 life:H.life=(boot_heap w.params).life
 ns:H.get? 227=some (bb w.params k)
 low:∀ i:Nat,i<227→H.get? i=some (fD w os i)
 s1:H.get? 232=some o1
 s2:H.get? 233=some o2
 s3:H.get? 234=some o3
 lists:∀ q∈ls,H.get? q.1=some q.2
structure Aj (w:World) (os:OsState):Prop where
 a2:fD w os 2=o_2 w.params
 a3:fD w os 3=o_3 w.params
 a216:fD w os 216=nO w.params
 a217:fD w os 217=nP w.params
 a219:fD w os 219=nQ w.params
 a220:fD w os 220=nR w.params
theorem StB.step {w:World}{os:OsState}{H:Heap}{k k' n n' N tk tk':Nat}{ls new:List (Nat×Obj)}{o1 o2 o3:Obj}{t t':Thread}(Z:Aj w os) (S:StB w os H k n ls o1 o2 o3) (hn:340≤n) (hle:n≤n') (hmax:n≤4000)
 (hls:(ls.all fun q=>Nat.blt 227 q.1&&Nat.blt q.1 n)=true) (hnew:(new.all fun q=>Nat.blt q.1 n'&&c7 (some q.2))=true)
 (kk:∀ X:Nat→Obj,(segGoT treeTable pw w n (some (.ref 227)) 0 N ⟨cV (ov X (gk w.params k)) n,n,(boot_heap w.params).life,#[],boot_drawn,tk,os⟩ t).map (dn ((227,bb w.params k') :: (2,o_2 w.params) :: (3,o_3 w.params) :: new)) =
  fj ((227,bb w.params k') :: (2,o_2 w.params) :: (3,o_3 w.params) :: new) t' n' (boot_heap w.params).life #[] boot_drawn tk' os) :
 ∃ H',topGo treeTable pw w 11 (some (.ref 6)) N ⟨H,#[],boot_drawn,tk,os⟩ t=some (⟨H',#[],boot_drawn,tk',os⟩,t')∧StB w os H' k' n' (ls++new) o1 o2 o3:=by
 have hL:∀ q∈gk w.params k,H.get? q.1=some q.2:=by
  intro q hq
  simp only [gk,List.mem_cons,List.not_mem_nil,or_false] at hq
  rcases hq with rfl | rfl | rfl | rfl | rfl | rfl | rfl
  ·exact S.ns
  ·show H.get? 3=some (o_3 w.params);exact (S.low 3 (by decide)).trans (congrArg some Z.a3)
  ·show H.get? 220=some (nR w.params);exact (S.low 220 (by decide)).trans (congrArg some Z.a220)
  ·show H.get? 219=some (nQ w.params);exact (S.low 219 (by decide)).trans (congrArg some Z.a219)
  ·show H.get? 217=some (nP w.params);exact (S.low 217 (by decide)).trans (congrArg some Z.a217)
  ·show H.get? 216=some (nO w.params);exact (S.low 216 (by decide)).trans (congrArg some Z.a216)
  ·show H.get? 2=some (o_2 w.params);exact (S.low 2 (by decide)).trans (congrArg some Z.a2)
 obtain ⟨H',g,hs,hl,hp⟩:=FI S.size S.life hmax hL (kk (atO H))
 have kp:=iQ g
 have keep:∀ b o,b<n→b≠3→b≠2→b≠227→H.get? b=some o→H'.get? b=some o:=fun b o h1 h2 h3 h4 e=>kp b o h1 h2 h3 h4 e
 refine ⟨H',js (by lia) (by decide) g,hs,hl,?_,fun i hi=>?_,keep _ _ (by omega) (by decide) (by decide) (by decide) S.s1,keep _ _ (by omega) (by decide) (by decide) (by decide) S.s2,keep _ _ (by omega) (by decide) (by decide) (by decide) S.s3,fun q hq=>?_⟩
 ·exact (hp (227,bb w.params k') aam (by show 227<n';omega)).trans rfl
 ·by_cases h3:i=3
  ·subst h3;refine Eq.trans ?_ (congrArg some Z.a3.symm);exact (hp (3,o_3 w.params) (by simp) (by show 3<n';omega)).trans rfl
  ·by_cases h2:i=2
   ·subst h2;refine Eq.trans ?_ (congrArg some Z.a2.symm);exact (hp (2,o_2 w.params) (aag _ aam) (by show 2<n';omega)).trans rfl
   ·exact keep _ _ (by omega) h3 h2 (by omega) (S.low i hi)
 ·rcases List.mem_append.mp hq with hq | hq
  ·obtain ⟨b1,b2⟩:=aac.mp (aab.mp hls q hq)
   have b1:=aan b1
   exact keep _ _ (aan b2) (by omega) (by omega) (by omega) (S.lists q hq)
  ·obtain ⟨b1,b2⟩:=aac.mp (aab.mp hnew q hq)
   exact (hp q (by simp [hq]) (aan b1)).trans (fE b2)
theorem jK {p:Program}{w:World}{n₀:Nat}{ann:Option Value}{n m:Nat}{s s' s'':Shared}{t t' t'':Thread}(h:topGo treeTable p w n₀ ann n s t=some (s',t')) (k:topGo treeTable p w n₀ ann m s' t'=some (s'',t'')):topGo treeTable p w n₀ ann (n+m) s t=some (s'',t''):=iy h k
theorem noG {x:Option (SharedT×Thread)}{ps:List (Nat×Obj)}{y:Option (Thread×Nat×Life×Array GenState×Drawn×Nat×OsState×List (Option Obj))}(h:x.map (dn ps)=y):x.map (fun r=>(dn ps r,()))=y.map (·,()):=by
 rw [← h,Option.map_map];rfl
theorem Ak:(eM.all fun q=>(Nat.blt 227 q.1&&Nat.blt q.1 340)&&c7 (some q.2))=true:=by kernel_rfl
section
variable (w:World) (os:OsState)
theorem EB:∃ H0,topGo treeTable pw w 11 (some (.ref 6)) 1355 ⟨boot_heap w.params,#[],boot_drawn,boot_toks,os⟩ (topStub pw)=some (⟨H0,#[],boot_drawn,489,os⟩,⟨aW aM (bj.drop 1),bO,⟨220,4,220,9⟩,lh (fr1 (aT w os))⟩) ∧
 H0.objs.size=232∧H0.life=(boot_heap w.params).life∧H0.get? 227=some (bb w.params 4)∧H0.get? 4=some o_4∧H0.get? 229=some qK∧H0.get? 230=some k8∧(∀ i:Nat,i<227→H0.get? i=some (fD w os i))∧Aj w os:=by
 obtain ⟨⟨⟨T,n,lf,gs,dr,tk,oo⟩,th⟩,h1,h2⟩:=Option.map_eq_some_iff.mp (Cv w os)
 simp only [dn,Prod.mk.injEq] at h2
 obtain ⟨⟨e1,e2,e3,e4,e5,e6,e7,h3⟩,h4⟩:=h2
 rw [e1,e2,e3,e4,e5,e6,e7] at h1
 have ob:∀ i,fD w os i=(T.get i).getD default:=fun i=>by unfold fD;rw [h1];rfl
 have g:=mZ ((Cu w os).trans h1)
 have ea:(S0 w os).abs=⟨boot_heap w.params,#[],boot_drawn,boot_toks,os⟩:=by
  have:=hJ (h:=boot_heap w.params) (by show (11:Nat)≤4000;decide)
  exact congrArg (fun h=>Shared.mk h #[] boot_drawn boot_toks os) this
 rw [ea] at g
 have at_:∀ q∈ps0 w.params,T.get q.1=some q.2:=fun q hq=>m3 h3 q hq
 have low:∀ i:Nat,i<227→(absHeap T 232 (boot_heap w.params).life).get? i=some (fD w os i):=fun i hi=>by
  rw [ob]
  rw [aab] at h4
  exact Ai (Nat.lt_trans hi (by decide)) (h4 i (List.mem_range.mpr hi))
 have gt:∀ (a:Nat) (o:Obj),(a,o)∈ps0 w.params→a<232→c7 (some o)=true→(absHeap T 232 (boot_heap w.params).life).get? a=some o:=fun a o hq lt lv=>(abs_get lt (at_ (a,o) hq)).trans (fE lv)
 have lo:∀ (a:Nat) (o:Obj),(a,o)∈ps0 w.params→fD w os a=o:=fun a o hq=>by rw [ob,at_ (a,o) hq];rfl
 refine ⟨_,g,absHeap_size _ _ _,rfl,gt 227 (bb w.params 4) (aah (i:=0) rfl) (by decide) rfl,gt 4 o_4 (aah (i:=7) rfl) (by decide) rfl,gt 229 qK (aah (i:=8) rfl) (by decide) rfl,gt 230 k8 (aah (i:=9) rfl) (by decide) rfl,low,?_⟩
 exact ⟨lo 2 (o_2 w.params) (aah (i:=1) rfl),lo 3 (o_3 w.params) (aah (i:=2) rfl),lo 216 (nO w.params) (aah (i:=3) rfl),lo 217 (nP w.params) (aah (i:=4) rfl),lo 219 (nQ w.params) (aah (i:=5) rfl),lo 220 (nR w.params) (aah (i:=6) rfl)⟩
theorem EC:Aj w os∧∃ N H o1 o2 o3,N≤3000∧topGo treeTable pw w 11 (some (.ref 6)) N ⟨boot_heap w.params,#[],boot_drawn,boot_toks,os⟩ (topStub pw)=some (⟨H,#[],boot_drawn,689,os⟩,⟨aW aM (bj.drop 22),bO,⟨688,4,740,19⟩,lh (fr1 (aT w os))⟩) ∧
 StB w os H 25 340 eM o1 o2 o3∧aJ w (av (am 1).xs 489) o1∧aJ w (av (am 2).xs 502) o2∧aJ w (av (am 3).xs 521) o3:=by
 obtain ⟨H0,g0,hs0,hl0,a227,a4,a229,a230,low0,Z⟩:=EB w os
 refine ⟨Z,?_⟩
 obtain ⟨n,H1,o1,o2,o3,hn,g1,hs1,hl1,b227,⟨q1,c1⟩,⟨q2,c2⟩,⟨q3,c3⟩,kp1⟩:=wZ (w:=w) (os:=os) (gens:=#[]) (drawn:=boot_drawn) (ann:=some (.ref 6)) (c:=bO) (B:=[topFrame ⟨0,0,0,0⟩]) (f:=.ret (fr1 (aT w os)).1 none false (fr1 (aT w os)).2.1 (.body (fr1 (aT w os)).2.2.1 (fr1 (aT w os)).2.2.2.1) (fr1 (aT w os)).2.2.2.2.1 (fr1 (aT w os)).2.2.2.2.2) (pos:=⟨220,4,220,9⟩) hs0 a227 a230
 have lowK:∀ i:Nat,i<227→H1.get? i=some (fD w os i):=fun i hi=>kp1 i _ (Nat.ne_of_lt hi) (low0 i hi)
 have hL:∀ q∈LP w.params,H1.get? q.1=some q.2:=by
  intro q hq
  simp only [LP,List.mem_cons,List.not_mem_nil,or_false] at hq
  rcases hq with rfl | rfl | rfl | rfl | rfl | rfl
  ·exact b227
  ·show H1.get? 3=some (o_3 w.params);exact (lowK 3 (by decide)).trans (congrArg some Z.a3)
  ·exact kp1 4 _ (by decide) a4
  ·exact kp1 229 _ (by decide) a229
  ·exact kp1 230 _ (by decide) a230
  ·show H1.get? 2=some (o_2 w.params);exact (lowK 2 (by decide)).trans (congrArg some Z.a2)
 obtain ⟨T,g2,ps,_⟩:=xN (G:=fun zz=>()) (g:=()) hs1 (hl1.trans hl0) (by decide) hL (noG (pcP w os (boot_heap w.params).life #[] boot_drawn (atO H1) (fr1 (aT w os)).1 (fr1 (aT w os)).2.1 (fr1 (aT w os)).2.2.2.2.2 (fr1 (aT w os)).2.2.1 (fr1 (aT w os)).2.2.2.1 (fr1 (aT w os)).2.2.2.2.1 ⟨0,0,0,0⟩ ⟨223,4,223,14⟩))
 have g:=jK g0 (jK g1 (js (n₀:=11) (ann:=some (.ref 6)) (by decide) (by decide) g2))
 have kp:=iQ g2
 have at_:∀ (a:Nat) (o:Obj),(a,o)∈psP w.params (atO H1)→a<340→c7 (some o)=true→(absHeap T 340 (boot_heap w.params).life).get? a=some o:=fun a o hq lt lv=>(abs_get lt (ps (a,o) hq)).trans (fE lv)
 have setat:∀ (a:Nat) (o:Obj),(∃ es ep t,o=⟨.type "set",none,.set es ep t,#[]⟩)→H1.get? a=some o→(a,atO H1 a)∈psP w.params (atO H1)→a<340→(absHeap T 340 (boot_heap w.params).life).get? a=some o:=fun a o ho e hq lt=>by
  rw [d7 e] at hq
  obtain ⟨es,ep,t,rfl⟩:=ho
  exact at_ a _ hq lt rfl
 refine ⟨_,_,o1,o2,o3,by lia,g,⟨absHeap_size _ _ _,rfl,at_ 227 (bb w.params 25) (aah (i:=0) rfl) (by decide) rfl,fun i hi=>?_,setat 232 _ (bY q1) c1 (aah (i:=5) rfl) (by decide),setat 233 _ (bY q2) c2 (aah (i:=6) rfl) (by decide),setat 234 _ (bY q3) c3 (aah (i:=7) rfl) (by decide),fun q hq=>?_⟩,q1,q2,q3⟩
 ·by_cases h3:i=3
  ·subst h3;refine Eq.trans ?_ (congrArg some Z.a3.symm);exact at_ 3 (o_3 w.params) (aah (i:=2) rfl) (by decide) rfl
  ·by_cases h2:i=2
   ·subst h2;refine Eq.trans ?_ (congrArg some Z.a2.symm);exact at_ 2 (o_2 w.params) (aah (i:=1) rfl) (by decide) rfl
   ·exact kp i _ hi h3 h2 (by lia) (lowK i hi)
 ·obtain ⟨b1,b2⟩:=aac.mp (aab.mp Ak q hq)
  exact at_ q.1 q.2 (aag _ (aag _ (aag _ (aag _ (aag _ (aag _ (aag _ (aag _ hq)))))))) (aan (aac.mp b1).2) b2
end
theorem ED (P:Params):((eM).all fun q=>Nat.blt 227 q.1&&Nat.blt q.1 340)=true:=by kernel_rfl
theorem EF (P:Params):((jJ P).all fun q=>Nat.blt q.1 407&&c7 (some q.2))=true:=by kernel_rfl
theorem EG (P:Params):(((eM)++jJ P).all fun q=>Nat.blt 227 q.1&&Nat.blt q.1 407)=true:=by kernel_rfl
theorem EH (P:Params):((kn P).all fun q=>Nat.blt q.1 491&&c7 (some q.2))=true:=by kernel_rfl
theorem EI (P:Params):((((eM)++jJ P)++kn P).all fun q=>Nat.blt 227 q.1&&Nat.blt q.1 491)=true:=by kernel_rfl
theorem EJ (P:Params):((mA P).all fun q=>Nat.blt q.1 567&&c7 (some q.2))=true:=by kernel_rfl
theorem EK (P:Params):(((((eM)++jJ P)++kn P)++mA P).all fun q=>Nat.blt 227 q.1&&Nat.blt q.1 567)=true:=by kernel_rfl
theorem EL (P:Params):((pA P).all fun q=>Nat.blt q.1 650&&c7 (some q.2))=true:=by kernel_rfl
theorem EM (P:Params):((((((eM)++jJ P)++kn P)++mA P)++pA P).all fun q=>Nat.blt 227 q.1&&Nat.blt q.1 650)=true:=by kernel_rfl
theorem EN (P:Params):((su P).all fun q=>Nat.blt q.1 703&&c7 (some q.2))=true:=by kernel_rfl
section
variable (w:World) (os:OsState)
theorem EO:∃ N H o1 o2 o3,N≤25000∧topGo treeTable pw w 11 (some (.ref 6)) N ⟨boot_heap w.params,#[],boot_drawn,boot_toks,os⟩ (topStub pw)=some (⟨H,#[],boot_drawn,2323,os⟩,⟨aW aM (bj.drop 34),bO,⟨752,4,752,8⟩,lh (fr1 (aT w os))⟩) ∧
 StB w os H 37 703 (eM++nW w.params) o1 o2 o3∧aJ w (av (am 1).xs 489) o1∧aJ w (av (am 2).xs 502) o2∧aJ w (av (am 3).xs 521) o3:=by
 obtain ⟨Z,N0,H0,o1,o2,o3,hN,g0,S0,q1,q2,q3⟩:=EC w os
 obtain ⟨H1,g1,S1⟩:=S0.step (new:=jJ w.params) Z (by decide) (by decide) (by decide) (ED w.params) (EF w.params) (fun X=>Hw w os (boot_heap w.params).life #[] boot_drawn X (fr1 (aT w os)).1 (fr1 (aT w os)).2.1 (fr1 (aT w os)).2.2.2.2.2 (fr1 (aT w os)).2.2.1 (fr1 (aT w os)).2.2.2.1 (fr1 (aT w os)).2.2.2.2.1 ⟨0,0,0,0⟩ ⟨688,4,740,19⟩)
 obtain ⟨H2,g2,S2⟩:=S1.step (new:=kn w.params) Z (by decide) (by decide) (by decide) (EG w.params) (EH w.params) (fun X=>Hx w os (boot_heap w.params).life #[] boot_drawn X (fr1 (aT w os)).1 (fr1 (aT w os)).2.1 (fr1 (aT w os)).2.2.2.2.2 (fr1 (aT w os)).2.2.1 (fr1 (aT w os)).2.2.2.1 (fr1 (aT w os)).2.2.2.2.1 ⟨0,0,0,0⟩ ⟨744,4,744,7⟩)
 obtain ⟨H3,g3,S3⟩:=S2.step (new:=mA w.params) Z (by decide) (by decide) (by decide) (EI w.params) (EJ w.params) (fun X=>Hy w os (boot_heap w.params).life #[] boot_drawn X (fr1 (aT w os)).1 (fr1 (aT w os)).2.1 (fr1 (aT w os)).2.2.2.2.2 (fr1 (aT w os)).2.2.1 (fr1 (aT w os)).2.2.2.1 (fr1 (aT w os)).2.2.2.2.1 ⟨0,0,0,0⟩ ⟨747,4,747,7⟩)
 obtain ⟨H4,g4,S4⟩:=S3.step (new:=pA w.params) Z (by decide) (by decide) (by decide) (EK w.params) (EL w.params) (fun X=>Hz w os (boot_heap w.params).life #[] boot_drawn X (fr1 (aT w os)).1 (fr1 (aT w os)).2.1 (fr1 (aT w os)).2.2.2.2.2 (fr1 (aT w os)).2.2.1 (fr1 (aT w os)).2.2.2.1 (fr1 (aT w os)).2.2.2.2.1 ⟨0,0,0,0⟩ ⟨748,4,748,7⟩)
 obtain ⟨H5,g5,S5⟩:=S4.step (new:=su w.params) Z (by decide) (by decide) (by decide) (EM w.params) (EN w.params) (fun X=>HA w os (boot_heap w.params).life #[] boot_drawn X (fr1 (aT w os)).1 (fr1 (aT w os)).2.1 (fr1 (aT w os)).2.2.2.2.2 (fr1 (aT w os)).2.2.1 (fr1 (aT w os)).2.2.2.1 (fr1 (aT w os)).2.2.2.2.1 ⟨0,0,0,0⟩ ⟨750,4,750,7⟩)
 have e:((((eM++jJ w.params)++kn w.params)++mA w.params)++pA w.params)++su w.params=eM++nW w.params:=by
  unfold nW
  simp only [aap]
 exact ⟨_,H5,o1,o2,o3,by lia,jK g0 (jK g1 (jK g2 (jK g3 (jK g4 g5)))),e▸S5,q1,q2,q3⟩
noncomputable def cu (H:Heap):cR where
 X:=atO H
 es a:=match (atO H a).data with | .set es _ _=>es | _=>#[]
 ep a:=match (atO H a).data with | .set _ ep _=>ep | _=>0
 st a:=match (atO H a).data with | .set _ _ t=>t | _=>.fresh 0 0 false
theorem fT {w:World}{H:Heap}{a:Nat}{o:Obj}{xs:List (Str×Tok)}(g:aJ w xs o) (h:H.get? a=some o):atO H (c8 (cu H) a).1=(c8 (cu H) a).2:=by
 obtain ⟨es,ep,t,rfl⟩:=bY g
 have:=d7 h
 show atO H a=⟨.type "set",none,.set (match (atO H a).data with | .set es _ _=>es | _=>#[]) (match (atO H a).data with | .set _ ep _=>ep | _=>0) (match (atO H a).data with | .set _ _ t=>t | _=>.fresh 0 0 false),#[]⟩
 rw [this]
end
theorem CC (P:Params):((pz P).all fun q=>Nat.blt q.1 878&&c7 (some q.2))=true:=by kernel_rfl
structure gL (w:World) (H:Heap):Prop where
 K:∀ q∈pz w.params,H.get? q.1=some q.2
 s1:∃ o,aJ w (av (am 1).xs 489) o∧H.get? 232=some o
 s2:∃ o,aJ w (av (am 2).xs 502) o∧H.get? 233=some o
 s3:∃ o,aJ w (av (am 3).xs 521) o∧H.get? 234=some o
theorem all_cons {H:Nat→Obj}{a:Nat×Obj}{l:List (Nat×Obj)}(h:H a.1=a.2) (k:∀ q∈l,H q.1=q.2):∀ q∈a :: l,H q.1=q.2:=fun q hq=>(List.mem_cons.mp hq).elim (fun e=>e▸h) (k q)
theorem CD (w:World) (os:OsState):∃ N H,N≤27000∧topRun treeTable pw w 11 (some (.ref 6)) N ⟨boot_heap w.params,#[],boot_drawn,boot_toks,os⟩ (topStub pw)=some ⟨H,#[],boot_drawn,2587,os⟩ ∧
 (staticsOk (importedModules pw.main.body) (boot_heap w.params) H&&namesBound pw H&&gensDone ⟨H,#[],boot_drawn,2587,os⟩&&laidKept (boot_heap w.params) H)=true ∧
 openSeen q01 eh (importedModules pw.main.body) (fun zz=>true) true ⟨H,#[],boot_drawn,2587,os⟩=openGood q01 eh∧gL w H:=by
 obtain ⟨N,H,o1,o2,o3,hN,g,S,q1,q2,q3⟩:=EO w os
 have e:=Cw w os (cu H)
 obtain ⟨⟨f,⟨T,n,lf,gs,dr,tk,oo⟩,c,q⟩,h1,h2⟩:=Option.map_eq_some_iff.mp e
 simp only [wX,Prod.mk.injEq] at h2
 obtain ⟨c1,c2,e1,e2,e3,e4,e5,e6,k,z1,z2,z3⟩:=h2
 have hov:ov (lj w os (atO H)) (LT w.params (cu H))=atO H:=by
  funext i
  refine Bw ?_ ?_
  ·exact all_cons (d7 S.ns) (all_cons (fT q1 S.s1) (all_cons (fT q2 S.s2) (all_cons (fT q3 S.s3) fun q hq=>d7 (S.lists q hq))))
  ·unfold lj
   cases hb:Nat.blt i 227 with
   | true=>exact (d7 (S.low i (aan hb))).symm
   | false=>rfl
 have h3:segRunT treeTable pw w 11 (some (.ref 6)) 0 1400 ⟨cV (ov (lj w os (cu H).X) (LT w.params (cu H))) 703,703,(boot_heap w.params).life,#[],boot_drawn,2323,os⟩ ⟨aW aM (bj.drop 34),bO,⟨752,4,752,8⟩,lh (fr1 (aT w os))⟩=Af w os (cu H):=by
  rw [PySem.W.Fast.te10110043849684766642];rfl
 rw [h1] at h3
 have h4:=nY (segRun_of h3)
 have ea:SharedT.abs ⟨cV (ov (lj w os (cu H).X) (LT w.params (cu H))) 703,703,(boot_heap w.params).life,#[],boot_drawn,2323,os⟩=⟨H,#[],boot_drawn,2323,os⟩:=by
  have:=hJ (h:=H) (by rw [S.size];decide)
  rw [S.size,S.life] at this
  show Shared.mk (absHeap (cV (ov (lj w os (atO H)) (LT w.params (cu H))) 703) 703 (boot_heap w.params).life) _ _ _ _=_
  rw [hov,this]
 rw [ea] at h4
 have r:=go_top g h4
 have ab:SharedT.abs ⟨T,n,lf,gs,dr,tk,oo⟩=⟨absHeap T 878 (boot_heap w.params).life,#[],boot_drawn,2587,os⟩:=by
  rw [e1,e2,e3,e4,e5,e6];rfl
 rw [ab] at r c1 c2
 refine ⟨_,_,by lia,r,c1,c2,?_⟩
 have kk:=aab.mp (CC w.params)
 refine ⟨fun q hq=>?_,⟨o1,q1,?_⟩,⟨o2,q2,?_⟩,⟨o3,q3,?_⟩⟩
 ·have:=kk q hq
  rw [Bool.and_eq_true] at this
  exact (abs_get (aan this.1) (m3 k q hq)).trans (fE this.2)
 ·have f1:=fT q1 S.s1
  rw [show (c8 (cu H) 232).2=o1 from f1.symm.trans (d7 S.s1)] at z1
  obtain ⟨_,_,_,rfl⟩:=bY q1
  exact abs_get (by decide) z1
 ·have f1:=fT q2 S.s2
  rw [show (c8 (cu H) 233).2=o2 from f1.symm.trans (d7 S.s2)] at z2
  obtain ⟨_,_,_,rfl⟩:=bY q2
  exact abs_get (by decide) z2
 ·have f1:=fT q3 S.s3
  rw [show (c8 (cu H) 234).2=o3 from f1.symm.trans (d7 S.s3)] at z3
  obtain ⟨_,_,_,rfl⟩:=bY q3
  exact abs_get (by decide) z3
theorem gL.keeps {w:World}{h h':Heap}(E:gL w h) (k:∀ b o,h.get? b=some o→h'.get? b=some o):gL w h' :=
 ⟨fun q hq=>k _ _ (E.K q hq),E.s1.imp fun o x=>⟨x.1,k _ _ x.2⟩,E.s2.imp fun o x=>⟨x.1,k _ _ x.2⟩,E.s3.imp fun o x=>⟨x.1,k _ _ x.2⟩⟩
theorem yt:opening pw=plainProg pw.main.scope.names:=by kernel_rfl
theorem CE (s:Shared):fenceModules? pw s=some s:=by kernel_rfl
theorem CF (P:Params):((boot_heap P).isNs mainGlobals&&(#[]:Array GenState).size==0)=true:=by kernel_rfl
theorem Al (P:Params):(boot_heap P).nsMap mainGlobals "__annotations__"=some (.ref 6):=by kernel_rfl
theorem w3 {p:Program}{w:World}{N m:Nat}{ann:Option Value}{s₀ s₁:Shared}(h1:(s₀.heap.isNs mainGlobals&&s₀.gens.size==0)=true) (h2:s₀.heap.objs.size=m) (h3:s₀.heap.nsMap mainGlobals "__annotations__"=ann)
 (r:topRun treeTable p w m ann N s₀ (topStub p)=some s₁) (c:(staticsOk (importedModules p.main.body) s₀.heap s₁.heap&&namesBound p s₁.heap&&gensDone s₁&&laidKept s₀.heap s₁.heap)=true):topFrom treeTable p w N s₀=some s₁:=by
 subst h2 h3
 unfold topFrom
 rw [h1]
 rw [r]
 show (match staticsOk (importedModules p.main.body) s₀.heap s₁.heap&&namesBound p s₁.heap&&gensDone s₁&&laidKept s₀.heap s₁.heap with | true=>some s₁ | false=>none)=some s₁
 rw [c]
theorem uz {p:Program}{w:World}{N:Nat}{s₀ s₁:Shared}(e:fencedOpening treeTable p w N=some s₀) (h:topFrom treeTable p w N s₀=some s₁):openEnds treeTable p w N=some s₁:=by
 unfold openEnds
 rw [e]
 exact h
theorem yu (P:Params):(boot_heap P).objs.size=11:=rfl
theorem yv {p:Program}{w:World}{n₀:Nat}{ann:Option Value}{N M:Nat}{s r:Shared}{t:Thread}(h:topRun treeTable p w n₀ ann N s t=some r) (le:N≤M):topRun treeTable p w n₀ ann M s t=some r:=by
 have:=topRun_mono (M - N) _ _ _ _ h
 rwa [show N+(M - N)=M by lia] at this
theorem yw (w:World):∃ s,openEnds treeTable pw w 27000=some s∧openSeen q01 eh (importedModules pw.main.body) (fun zz=>true) true s=openGood q01 eh∧gL w s.heap:=by
 obtain ⟨⟨h,gs,d,k,os⟩,e,e'⟩:=Option.map_eq_some_iff.mp (boot_open (p:=pw) (N:=27000) yt (by decide) CE w)
 simp only [Prod.mk.injEq] at e'
 obtain ⟨e1,e2,e3,e4⟩:=e'
 rw [e1,e2,e3,e4] at e
 obtain ⟨N,H,hN,r,c1,c2,E⟩:=CD w os
 exact ⟨_,uz e (w3 (CF w.params) (yu w.params) (Al w.params) (yv r hN) c1),c2,E⟩
noncomputable def w4 (s:Shared):Addr→Option Obj:=fun a=>s.heap.get? a
noncomputable def sA (w:World):Addr→Option Obj:=((openEnds treeTable pw w 27000).map w4).getD fun zz=>none
theorem EP:LeftO pw q01 eh (fun zz=>true) w4 sA 27000:=fun w=>by
 obtain ⟨s,e,c,_⟩:=yw w
 unfold sA
 rw [e]
 show some (_,_)=some (_,_)
 rw [c];rfl
theorem HC (w:World) (s:Shared) (h:w4 s=sA w):gL w s.heap:=by
 obtain ⟨s',e,_,E⟩:=yw w
 unfold sA at h
 rw [e] at h
 exact E.keeps fun b o x=>(congrFun h b).trans x
theorem CG:∀ i j,anF i=anF j→i=j:=by
 intro i j h
 have names:∀ k:Fin 42,∀ l:Fin 42,nN.getD k.1 "?"=nN.getD l.1 "?"→k=l:=by decide +kernel
 have far:∀ k:Fin 42,(nN.getD k.1 "?").cps.toList.head?≠some 63:=by decide +kernel
 have hd:∀ n:Nat,42≤n→(txt (List.replicate n 63)).cps.toList.head? = some 63:=by
  intro n hn
  obtain ⟨m,rfl⟩:∃ m,n=m+1:=⟨n - 1,by lia⟩
  simp [txt,List.replicate_succ]
 unfold anF at h
 by_cases hi:i<42<;>by_cases hj:j<42
 ·rw [if_pos hi,if_pos hj] at h
  exact congrArg Fin.val (names ⟨i,hi⟩ ⟨j,hj⟩ h)
 ·rw [if_pos hi,if_neg hj] at h
  exact absurd ((congrArg (fun x=>x.cps.toList.head?) h).trans (hd j (by omega))) (far ⟨i,hi⟩)
 ·rw [if_neg hi,if_pos hj] at h
  exact absurd ((congrArg (fun x=>x.cps.toList.head?) h.symm).trans (hd i (by omega))) (far ⟨j,hj⟩)
 ·rw [if_neg hi,if_neg hj] at h
  have:=congrArg List.length (uN h)
  simpa using this
noncomputable def N1:aH:=⟨anF,CG⟩
theorem uA {w:World}{xs:List (Str×Tok)}{o:Obj}(g:aJ w xs o) (L:List (List Nat)) (hL:∀ k:Str,(∃ y∈xs,y.1=k)↔k.cps.toList∈L):dR w o (eB L) xs.length:=by
 obtain ⟨es,ep,t,rfl,hf,hp⟩:=g
 intro prog
 have mem:∀ e∈es.toList,∃ y∈xs,e=j1 w y:=fun e he=>by
  obtain ⟨y,hy,rfl⟩:=List.mem_map.mp (hp.mem_iff.mp he);exact ⟨y,hy,rfl⟩
 refine ⟨⟨rfl,rfl,rfl⟩,es,ep,t,rfl,fun e he=>?_,fun k=>?_,?_,hf⟩
 ·obtain ⟨y,_,rfl⟩:=mem e he
  exact ⟨⟨y.1,strKind_is _ _ _ _,rfl⟩,rfl⟩
 ·unfold eB
  rw [decide_eq_true_eq,← hL k]
  constructor
  ·rintro ⟨y,hy,rfl⟩
   exact ⟨j1 w y,hp.mem_iff.mpr (List.mem_map_of_mem hy),strKind_is _ _ _ _⟩
  ·rintro ⟨e,he,hk⟩
   obtain ⟨y,hy,rfl⟩:=mem e he
   exact ⟨y,hy,Value.isStrOf_inj (.str y.1 y.2) y.1 k (strKind_is prog w y.1 y.2) hk⟩
 ·have:=hp.length_eq
  rw [Array.length_toList,List.length_map] at this
  exact this
noncomputable def K1 (P:Params) (R:cR):Frag:=c8 R 232 :: c8 R 233 :: c8 R 234 :: pz P
noncomputable def sB:List Nat→Bool
 | []=>true
 | a :: r=>r.all (fun b=>!Nat.beq a b)&&sB r
theorem jc {o:Obj}{a:Nat} : ∀ {l:List (Nat×Obj)},sB (l.map (·.1))=true→(a,o)∈l→l.lookup a=some o
 | (k,v) :: r,nd,h=>by
  obtain ⟨nk,nr⟩:=bn nd
  rw [List.lookup_cons]
  rcases List.mem_cons.mp h with q | q
  ·(injection q with hA hB;subst hA;subst hB);simp
  ·have e:=bE (aab.mp nk a (List.mem_map_of_mem (f:=(·.1)) q))
   have:(a==k)=false:=beq_eq_false_iff_ne.mpr fun z=>by subst z;rw [Nat.beq_refl] at e;injection e
   rw [this];exact jc nr q
theorem CH (P:Params) (R:cR):sB ((K1 P R).map (·.1))=true:=by kernel_rfl
theorem w5 {P:Params}{R:cR}{a:Nat}{o:Obj}(h:(a,o)∈K1 P R):(K1 P R).lookup a=some o:=jc (CH P R) h
noncomputable def sC (K:Frag) (C:Addr):Bool:=plainGet K C ""&&findIn K (.ref C) "__setattr__"==some (some (.builtin "object.__setattr__"))&&plainOver K C&&hasDictIn K C&&(List.range 12).all fun a=>(findIn K (.ref C) (anF a)).any (noGet K)&&takerIn K C (anF a)==some none
theorem mC {K:Frag}{C:Addr}(h:sC K C=true):fO N1 K C P2.ats:=by
 refine aq h fun h h5=>aI h fun h h3 h4=>aq h fun h1 h2=>?_
 refine ⟨fun zz=>h1,eq_of_beq h2,h3,h4,fun a ha=>?_⟩
 have ha':a∈List.range 12:=by
  have:∀ a∈P2.ats,a∈List.range 12:=by decide
  exact this a ha
 refine aq (aab.mp h5 a ha') fun q1 q2=>?_
 exact j8 q1 fun x hx q=>⟨⟨x,hx,q⟩,eq_of_beq q2⟩
theorem pB (P:Params) (R:cR):sC (K1 P R) 706=true∧sC (K1 P R) 220=true:=⟨by kernel_rfl,by kernel_rfl⟩
noncomputable def lq (m:Nat):Addr:=(cT[m - 12]?).elim 0 (·.a)
noncomputable def vh (o:Option Obj):Bool:=match o with | some ⟨_,_,.func _,_⟩=>true | _=>false
theorem EQ (P:Params) (R:cR):((List.range 30).all fun m=>findIn (K1 P R) (.ref 706) (anF (m+12))==some (some (.ref (lq (m+12))))&&typeIn (K1 P R) (.ref (lq (m+12)))==some (.type "function"))=true:=by kernel_rfl
theorem kx (P:Params) (R:cR):findIn (K1 P R) (.ref 706) "__init__"=some (some (.ref 35))∧typeIn (K1 P R) (.ref 35)=some (.type "function")∧makesIn (K1 P R) 706=true∧keepIn (K1 P R) (.ref 706)=true∧readsIn (K1 P R) 706 (.type "type")=true:=⟨by kernel_rfl,by kernel_rfl,by kernel_rfl,by kernel_rfl,by kernel_rfl⟩
noncomputable def pC:List Value:=[.str "aeo" 487,.ref 232,.ref 233,.ref 234,.ref 367,.ref 377,.ref 396,.ref 406,.ref 428,.ref 450,.ref 490,.ref 566,.ref 594,.ref 649,.ref 656,.ref 702,.ref 703]
theorem ER (P:Params) (R:cR):P2.cat.map (fun q=>findCls (K1 P R) (.ref 706) (.type "type") q.2.2.1)=pC.map fun v=>some (.val v):=by kernel_rfl
theorem GI (P:Params) (R:cR):((List.range 3).all fun k=>(List.range 3).all fun j=>exmOne (K1 P R) (.ref ((P2.ex.getD k ("",0)).2)) (.ref ((P2.ex.getD j ("",0)).2))==some (k==j))=true:=by kernel_rfl
theorem ES (P:Params) (R:cR):((cT++dP).all fun r=>vh ((K1 P R).lookup r.a))=true:=by kernel_rfl
theorem CJ (P:Params) (R:cR):(((gB++fS).zip (cT++dP)).all fun x=>codeIn (K1 P R) (.ref (x.2.a - 1)) x.1.qual)=true:=by kernel_rfl
noncomputable def c9 (P:Params) (n:Str):Option Value:=match (k_3 P).data with | .dict es _=>nsFind es n | _=>none
theorem yx (P:Params) (h:Heap) (e:h.get? 3=some (k_3 P)):h.isNs 3=true:=by
 unfold Heap.isNs
 rw [e]
 kernel_rfl
theorem Am (P:Params) (h:Heap) (e:h.get? 3=some (k_3 P)) (n:Str):h.nsMap 3 n=c9 P n:=by
 unfold Heap.nsMap
 rw [e]
 rfl
noncomputable def nZ (f:Nat):Addr:=(dP[f]?).elim 0 (·.a)
theorem GJ (P:Params):P2.fns.map (c9 P)=(List.range 12).map fun f=>some (.ref (nZ f)):=by kernel_rfl
theorem n0 (P:Params):c9 P "EnglishStemmer"=some (.ref 706)∧c9 P "_law_near"=some (.ref 811)∧c9 P "_law_far"=some (.ref 825)∧c9 P "law"=some (.ref 877):=⟨by kernel_rfl,by kernel_rfl,by kernel_rfl,by kernel_rfl⟩
theorem GK (P:Params):P2.ex.map (fun q=>c9 P q.1)=P2.ex.map fun q=>some (.ref q.2):=by kernel_rfl
theorem ET (P:Params):((["len","min","max","ord","chr","range"]:List Str).all fun n=>(c9 P n).isNone)=true:=by kernel_rfl
theorem GL:bootBuiltins "range"=some (.type "range"):=by kernel_rfl
theorem GN:∀ b:Bi,bootBuiltins b.nm=some (.builtin b.id):=by intro b;cases b<;>kernel_rfl
structure bP (w:World) (h:Heap) (R:cR) (mb:Str→Option Value):Prop where
 X:(K1 w.params R).In h
 lim:h.NoLimit
 b:h.Ns builtinsNs mb
 bv:∀ x:Str,x≠"__name__"→mb x=bootBuiltins x
 s1:dR w (c8 R 232).2 (eB (vs1.map fun c=>[c])) 6
 s2:dR w (c8 R 233).2 (eB (vs2.map fun c=>[c])) 9
 s3:dR w (c8 R 234).2 (eB (vs3.map fun c=>[c])) 10
section
variable {w:World}{h:Heap}{R:cR}{mb:Str→Option Value}
theorem bP.at (Y:bP w h R mb) {a:Addr}{o:Obj}(e:(a,o)∈K1 w.params R):h.get? a=some o:=Y.X a o (w5 e)
theorem bP.obs (Y:bP w h R mb) {a:Addr}{o:Obj}(e:(a,o)∈pz w.params):h.get? a=some o:=Y.at (aag _ (aag _ (aag _ e)))
theorem bP.ns (Y:bP w h R mb):h.Ns mainGlobals (c9 w.params):=by
 have e:h.get? 3=some (k_3 w.params):=Y.obs (aah (i:=1) rfl)
 have:=Heap.Ns.of_isNs (yx w.params h e)
 rw [show h.nsMap 3=c9 w.params from funext (Am w.params h e)] at this
 exact this
theorem bP.own (Y:bP w h R mb) {n:Str}{u:Value}(e:c9 w.params n=some u):dW h mainGlobals builtinsNs n u:=⟨_,_,Y.ns,Y.b,.inl e⟩
theorem bP.built (Y:bP w h R mb) {n:Str}{u:Value}(hn:n∈(["len","min","max","ord","chr","range"]:List Str)) (e:bootBuiltins n=some u):dW h mainGlobals builtinsNs n u:=by
 refine ⟨_,_,Y.ns,Y.b,.inr ⟨Option.isNone_iff_eq_none.mp (aab.mp (ET w.params) n hn),?_⟩⟩
 rw [Y.bv n (fun q=>by subst q;revert hn;decide +kernel)]
 exact e
end
section
variable {w:World}{h:Heap}
theorem mD {a:Addr}{o:Obj}{l:List Nat}{n:Nat}(e:h.get? a=some o) (s:dR w o (eB (l.map fun c=>[c])) n) (hn:n<4096):Rep w ⟨[],[]⟩ h (fA l) (.ref a):=by
 unfold fA
 rw [kM]
 exact ⟨a,o,n,rfl,List.not_mem_nil,e,s,hn⟩
noncomputable def okT (l:List Nat):Bool:=Nat.ble l.length 100&&l.all fun c=>Nat.blt c 1000
theorem n6 {l:List Nat}(e:okT l=true):fo l:=by
 obtain ⟨a,b⟩:=bn e
 exact ⟨aaf (aan a) (by decide),fun c hc=>Nat.lt_of_lt_of_le (aan (aab.mp b c hc)) (by decide)⟩
theorem qe:∀ (a:Addr) (l:List Row),Reps w ⟨[],[]⟩ h (aQ a l) (nS a l)
 | _,[]=>by unfold aQ nS;rw [aN]
 | a,e :: l=>by unfold aQ nS;rw [aB];exact ⟨_,_,rfl,by rw [vX],qe (a+3) l⟩
theorem qf:∀ (a:Addr) (l:List Row),(aQ a l).length=l.length
 | _,[]=>rfl
 | a,_ :: l=>congrArg (· + 1) (qf (a+3) l)
theorem An {a:Addr}{l:List Row}(e:h.get? (lsO a l).1=some (lsO a l).2) (hl:l.length≤100):Rep w ⟨[],[]⟩ h (.list (aQ a l)) (.ref (lsO a l).1):=by
 rw [cX]
 exact ⟨by rw [qf];exact aaf hl (by decide),_,_,0,rfl,List.not_mem_nil,e,qe a l⟩
theorem sD:∀ {l:List (List Nat)}(t:Nat),(l.all okT)=true→Reps w ⟨[],[]⟩ h (nM l) (ki t l)
 | [],_,_=>by show Reps _ _ _ [] [];rw [aN]
 | s :: l,t,e=>by
  refine aq (show (okT s&&l.all okT)=true from e) fun e1 e2=>?_
  show Reps _ _ _ (.str s :: nM l) (.str (txt s) t :: ki (t+1) l)
  rw [aB];exact ⟨_,_,rfl,cI (n6 e1) _,sD (t+1) e2⟩
noncomputable def lr (e:List Nat×List Nat):V:=.tup [.str e.1,.str e.2]
theorem Ao {a:Addr}{t:Nat}{e:List Nat×List Nat}(g:h.get? a=some ⟨.type "tuple",none,.seq #[.str (txt e.1) t,.str (txt e.2) (t+1)] 0,#[]⟩) (h1:okT e.1=true) (h2:okT e.2=true):Rep w ⟨[],[]⟩ h (lr e) (.ref a):=by
 unfold lr
 rw [hV]
 refine ⟨show 2≤big by decide,a,[.str (txt e.1) t,.str (txt e.2) (t+1)],0,rfl,List.not_mem_nil,g,?_⟩
 rw [aB];exact ⟨_,_,rfl,cI (n6 h1) _,by rw [aB];exact ⟨_,_,rfl,cI (n6 h2) _,by rw [aN]⟩⟩
theorem n7:∀ {l:List (List Nat×List Nat)}{a t:Nat},(∀ q∈nU a t l,h.get? q.1=some q.2)→(l.all fun e=>okT e.1&&okT e.2)=true→Reps w ⟨[],[]⟩ h (l.map lr) (k9 a l.length)
 | [],_,_,_,_=>by show Reps _ _ _ [] [];rw [aN]
 | e :: l,a,t,g,k=>by
  refine aq (show ((okT e.1&&okT e.2)&&l.all _)=true from k) fun k1 k2=>aq k1 fun h1 h2=>?_
  show Reps _ _ _ (lr e :: l.map lr) (.ref a :: k9 (a+1) l.length)
  rw [aB];exact ⟨_,_,rfl,Ao (t:=t) (g (a,_) aam) h1 h2,n7 (fun q hq=>g q (aag _ hq)) k2⟩
theorem qg {l:List (List Nat×List Nat)}{a t:Nat}(e:h.get? (io a l).1=some (io a l).2) (g:∀ q∈nU a t l,h.get? q.1=some q.2) (k:(l.all fun e=>okT e.1&&okT e.2)=true) (hl:l.length≤100):Rep w ⟨[],[]⟩ h (.list (l.map lr)) (.ref (io a l).1):=by
 rw [cX]
 exact ⟨by rw [List.length_map];exact aaf hl (by decide),_,_,0,rfl,List.not_mem_nil,e,n7 g k⟩
theorem GO {P:Params}{a t:Nat}{e:Row}(g1:h.get? a=some (yp P t e)) (g2:h.get? (a+1)=some (Bu a)) (k:okT e.1=true):j4 N1 w ⟨[],[]⟩ h (a+1,a) (.inst 220 (iV e)):=by
 refine ⟨show 3≤100 by decide,g2,[_,_,_],3,g1,?_⟩
 refine ⟨_,_,rfl,⟨_,rfl⟩,cI (n6 k) _,rfl,_,_,rfl,⟨_,rfl⟩,bR _ _,rfl,_,_,rfl,⟨_,rfl⟩,bR _ _,rfl,rfl⟩
theorem Bx {P:Params}{x:Addr}{fs:ah} : ∀ {l:List Row}{a t:Nat},roT a l x=some fs→(∀ q∈cS P a t l,h.get? q.1=some q.2)→(l.all fun e=>okT e.1)=true→∃ d,j4 N1 w ⟨[],[]⟩ h (x,d) (.inst 220 fs)
 | [],_,_,e,_,_=>by injection e
 | r :: l,a,t,e,g,k=>by
  obtain ⟨k1,k2⟩:=bn (show (okT r.1&&l.all _)=true from k)
  unfold roT at e
  by_cases q:(x==a+1)=true
  ·rw [if_pos q] at e
   obtain rfl:=aaa e
   rw [eq_of_beq q]
   exact ⟨a,GO (P:=P) (t:=t) (g (a,_) aam) (g (a+1,_) (aag _ aam)) k1⟩
  ·rw [if_neg q] at e
   exact Bx (t:=t+13+(neg r.2.1+neg r.2.2)) e (fun q hq=>g q (aag _ (aag _ hq))) k2
theorem GP:(tbs.all fun t=>t.2.all fun e=>okT e.1)=true:=by decide +kernel
theorem yz {P:Params}{x:Addr}{fs:ah}(g:∀ q∈nV P tbs tks,h.get? q.1=some q.2):∀ {l:List (Addr×List Row)},(∀ t∈l,t∈tbs)→roA l x=some fs→∃ d,j4 N1 w ⟨[],[]⟩ h (x,d) (.inst 220 fs)
 | [],_,e=>by injection e
 | t :: r,hl,e=>by
  unfold roA at e
  cases q:roT t.1 t.2 x with
  | none=>rw [q] at e;exact yz g (fun t m=>hl t (aag _ m)) e
  | some f =>
   rw [q] at e;obtain rfl:=aaa e
   have ht:=hl t aam
   obtain ⟨k,z⟩:=kj (P:=P) (ks:=tks) ht (by decide)
   exact Bx (P:=P) (t:=k) q (fun q hq=>g q (z q (aag _ hq))) (aab.mp GP t ht)
end
theorem w6:(eL.all fun e=>okT e.1&&okT e.2)=true∧(gA.all fun e=>okT e.1&&okT e.2)=true∧(kh.all okT)=true:=by decide +kernel
theorem sE {α β γ:Type}{f:α→γ}{g:β→γ}{l:List α}{l':List β}(h:l.map f=l'.map g) {k:Nat}{a:α}(e:l[k]? = some a):∃ b,l'[k]? = some b∧f a=g b:=by
 have:=congrArg (fun x=>x[k]?) h
 simp only [List.getElem?_map,e,Option.map_some] at this
 obtain ⟨b,h1,h2⟩:=Option.map_eq_some_iff.mp this.symm
 exact ⟨b,h1,h2.symm⟩
theorem pD:∀ {fs:List Fn2}{rs:List eS}{k:Nat}{f:Fn2}{r:eS},fs[k]? = some f→rs[k]? = some r→(r.a,jI f r)∈sr fs rs
 | f :: fs,r :: rs,0,_,_,e1,e2=>by obtain rfl:=aaa e1;obtain rfl:=aaa e2;exact aam
 | f :: fs,r :: rs,k+1,_,_,e1,e2=>aag _ (aag _ (pD (fs:=fs) (rs:=rs) e1 e2))
 | [],_,_,_,_,e1,_=>by injection e1
 | _ :: _,[],_,_,_,_,e2=>by injection e2
theorem sF {h:Heap}{C NS:Addr}{o n:Obj}(g:h.get? C=some o) (gn:h.get? NS=some n) (f:∃ nm q bs hdct sn sub ab col dd k0 k1 k2 k3 k5,o=excClassObj nm q C NS bs nh hdct sn sub ab col dd k0 k1 k2 k3 k5 "Exception.__new__")
 (k:∀ h':Heap,h'.get? NS=some n→h'.isNs NS=true∧h'.nsMap NS "__init__"=none):rt h C:=by
 obtain ⟨nm,q,bs,hdct,sn,sub,ab,col,dd,k0,k1,k2,k3,k5,rfl⟩:=f
 obtain ⟨a,b⟩:=k h gn
 exact ⟨nm,q,NS,bs,hdct,sn,sub,ab,col,dd,k0,k1,k2,k3,k5,_,g,Heap.Ns.of_isNs a,b⟩
theorem jd (P:Params):((∃ nm q bs hdct sn sub ab col dd k0 k1 k2 k3 k5,wR P=excClassObj nm q 718 717 bs nh hdct sn sub ab col dd k0 k1 k2 k3 k5 "Exception.__new__")∧∀ h':Heap,h'.get? 717=some (wQ P)→h'.isNs 717=true∧h'.nsMap 717 "__init__"=none) ∧
 ((∃ nm q bs hdct sn sub ab col dd k0 k1 k2 k3 k5,wT P=excClassObj nm q 731 730 bs nh hdct sn sub ab col dd k0 k1 k2 k3 k5 "Exception.__new__")∧∀ h':Heap,h'.get? 730=some (wS P)→h'.isNs 730=true∧h'.nsMap 730 "__init__"=none) ∧
 ((∃ nm q bs hdct sn sub ab col dd k0 k1 k2 k3 k5,wV P=excClassObj nm q 744 743 bs nh hdct sn sub ab col dd k0 k1 k2 k3 k5 "Exception.__new__")∧∀ h':Heap,h'.get? 743=some (wU P)→h'.isNs 743=true∧h'.nsMap 743 "__init__"=none):=by
 refine ⟨⟨⟨_,_,_,_,_,_,_,_,_,_,_,_,_,_,rfl⟩,fun h' e=>?_⟩,⟨⟨_,_,_,_,_,_,_,_,_,_,_,_,_,_,rfl⟩,fun h' e=>?_⟩,⟨_,_,_,_,_,_,_,_,_,_,_,_,_,_,rfl⟩,fun h' e=>?_⟩ <;>
  exact ⟨by unfold Heap.isNs;rw [e];kernel_rfl,by unfold Heap.nsMap;rw [e];kernel_rfl⟩
section
variable {w:World}{h:Heap}{R:cR}{mb:Str→Option Value}
theorem gU {α:Type}{l:List α}{k:Nat}{a:α}(e:l[k]? = some a):k<l.length:=by
 rcases Nat.lt_or_ge k l.length with q | q
 ·exact q
 ·rw [List.getElem?_eq_none q] at e;injection e
theorem w7 (Y:bP w h R mb) {a:Addr}(e:vh ((K1 w.params R).lookup a)=true):o8 h a:=by
 cases q:(K1 w.params R).lookup a with
 | none=>rw [q] at e;injection e
 | some o =>
  rw [q] at e
  obtain ⟨c,d,dt,sl⟩:=o
  cases dt with
  | func fd=>exact ⟨_,fd,Y.X _ _ q,rfl⟩
  | _=>injection e
theorem yA (Y:bP w h R mb) {r:eS}(e:r∈cT++dP):o8 h r.a:=w7 Y (aab.mp (ES w.params R) r e)
theorem CK (Y:bP w h R mb):∀ {k:Nat}{q:Str×Addr×Str×V}{u:Value},P2.cat[k]? = some q→pC[k]? = some u→Rep w ⟨[],[]⟩ h q.2.2.2 u:=by
 have O:∀ q∈nV w.params tbs tks,h.get? q.1=some q.2:=fun q hq=>Y.obs (aao _ (aao _ (aao _ (aao _ (aao _ hq)))))
 have T:∀ {k:Nat}{t:Addr×List Row},tbs[k]? = some t→t.2.length≤100→Rep w ⟨[],[]⟩ h (.list (aQ t.1 t.2)) (.ref (lsO t.1 t.2).1):=fun {k t} e hl=>by
  obtain ⟨_,z⟩:=kj (P:=w.params) (ks:=tks) (aah e) (by decide)
  exact An (O _ (z _ aam)) hl
 intro k q u e1 e2
 match k,e1,e2 with
 | 0,e1,e2=>obtain rfl:=aaa e1;obtain rfl:=aaa e2;exact cI ⟨by decide,by decide⟩ _
 | 1,e1,e2=>obtain rfl:=aaa e1;obtain rfl:=aaa e2;exact mD (Y.at (o:=(c8 R 232).2) (aah (i:=0) rfl)) Y.s1 (by decide)
 | 2,e1,e2=>obtain rfl:=aaa e1;obtain rfl:=aaa e2;exact mD (Y.at (o:=(c8 R 233).2) (aah (i:=1) rfl)) Y.s2 (by decide)
 | 3,e1,e2=>obtain rfl:=aaa e1;obtain rfl:=aaa e2;exact mD (Y.at (o:=(c8 R 234).2) (aah (i:=2) rfl)) Y.s3 (by decide)
 | 4,e1,e2=>obtain rfl:=aaa e1;obtain rfl:=aaa e2;exact T (k:=0) rfl (by decide)
 | 5,e1,e2=>obtain rfl:=aaa e1;obtain rfl:=aaa e2;exact T (k:=1) rfl (by decide)
 | 6,e1,e2=>obtain rfl:=aaa e1;obtain rfl:=aaa e2;exact T (k:=2) rfl (by decide)
 | 7,e1,e2=>obtain rfl:=aaa e1;obtain rfl:=aaa e2;exact T (k:=3) rfl (by decide)
 | 8,e1,e2=>obtain rfl:=aaa e1;obtain rfl:=aaa e2;exact T (k:=4) rfl (by decide)
 | 9,e1,e2=>obtain rfl:=aaa e1;obtain rfl:=aaa e2;exact T (k:=5) rfl (by decide)
 | 10,e1,e2=>obtain rfl:=aaa e1;obtain rfl:=aaa e2;exact T (k:=6) rfl (by decide)
 | 11,e1,e2=>obtain rfl:=aaa e1;obtain rfl:=aaa e2;exact T (k:=7) rfl (by decide)
 | 12,e1,e2=>obtain rfl:=aaa e1;obtain rfl:=aaa e2;exact T (k:=8) rfl (by decide)
 | 13,e1,e2=>obtain rfl:=aaa e1;obtain rfl:=aaa e2;exact T (k:=9) rfl (by decide)
 | 14,e1,e2=>obtain rfl:=aaa e1;obtain rfl:=aaa e2;exact T (k:=10) rfl (by decide)
 | 15,e1,e2=>obtain rfl:=aaa e1;obtain rfl:=aaa e2;exact T (k:=11) rfl (by decide)
 | 16,e1,e2 =>
  obtain rfl:=aaa e1;obtain rfl:=aaa e2
  rw [hV]
  exact ⟨by decide,703,ki 2323 kh,0,rfl,List.not_mem_nil,Y.obs (o:=Bv) (aah (i:=14) rfl),sD 2323 w6.2.2⟩
 | k+17,e1,e2=>injection e1
theorem EU (Y:bP w h R mb):∀ {i:Nat}{g:Str×V},P2.gls[i]? = some g→∃ u,dW h mainGlobals builtinsNs g.1 u∧Rep w ⟨[],[]⟩ h g.2 u:=by
 intro i g e
 match i,e with
 | 0,e =>
  cases e
  exact ⟨_,Y.own (n0 w.params).2.1,qg (l:=eL) (a:=783) (t:=2435) (Y.obs (o:=(io 783 eL).2) (aah (i:=15) rfl)) (fun q hq=>Y.obs (aao _ (aao _ (aao _ (List.mem_append_left _ hq))))) w6.1 (by decide)⟩
 | 1,e =>
  cases e
  exact ⟨_,Y.own (n0 w.params).2.2.1,qg (l:=gA) (a:=812) (t:=2492) (Y.obs (o:=(io 812 gA).2) (aah (i:=16) rfl)) (fun q hq=>Y.obs (aao _ (aao _ (aao _ (aao _ (List.mem_append_left _ hq)))))) w6.2.1 (by decide)⟩
 | i+2,e=>injection e
theorem vj {m:Nat}(hm:m<30):∃ r,cT[m]? = some r∧r.a=lq (m+12)∧r∈cT++dP:=by
 have l:m<cT.length:=Nat.lt_of_lt_of_le hm (by decide)
 refine ⟨cT[m],List.getElem?_eq_getElem l,?_,List.mem_append_left _ (List.getElem_mem l)⟩
 unfold lq
 rw [Nat.add_sub_cancel,List.getElem?_eq_getElem l];rfl
theorem vk {f:Nat}(hf:f<13):∃ r,dP[f]? = some r∧r.a=nZ f∧r∈cT++dP:=by
 have l:f<dP.length:=Nat.lt_of_lt_of_le hf (by decide)
 refine ⟨dP[f],List.getElem?_eq_getElem l,?_,aao _ (List.getElem_mem l)⟩
 unfold nZ
 rw [List.getElem?_eq_getElem l];rfl
theorem CL {C:Addr}{m f:Nat}(e:P2.meth C m=some f):∃ k,k<30∧m=k+12∧f=k+12∧C=706:=by
 unfold Pg.meth at e
 obtain ⟨⟨c,m',f'⟩,hx,rfl⟩:=Option.map_eq_some_iff.mp e
 have hp:=List.find?_some hx
 have hmem:=List.mem_of_find?_eq_some hx
 refine aq hp fun h1 h2=>?_
 obtain rfl:=eq_of_beq h1
 obtain rfl:=eq_of_beq h2
 have all:(P2.mt.all fun x=>x.1==706&&(Nat.ble 12 x.2.1&&Nat.blt x.2.1 42)&&x.2.2==x.2.1)=true:=by decide
 refine aI (aab.mp all _ hmem) fun q1 q2 q3=>aq q2 fun q2 q4=>?_
 have q2:12≤m':=aan q2
 have q4:m'<42:=aan q4
 exact ⟨m' - 12,by omega,(Nat.sub_add_cancel q2).symm,(eq_of_beq q3).trans (Nat.sub_add_cancel q2).symm,eq_of_beq q1⟩
theorem yB {G:Sg}(hP:G.P=P2) {n:Nat}(Y:bP w h R mb) (fns:∀ f,f<12→cZ pw w N1 h n (.ref (nZ f)) (G.Ψ f))
 (mts:∀ m,m<30→dU pw w N1 h n (.ref (lq (m+12))) (G.Φ (m+12))) (ini:∃ k,k+1≤n∧dU pw w N1 h k (.ref 35) (G.Φ 42)):bD G pw w N1 h (K1 w.params R) mainGlobals builtinsNs n where
 an:=fun i=>by rw [hP];rfl
 X:=Y.X
 gl:=fun i g e=>EU Y (hP▸e)
 bi:=fun b=>Y.built (by cases b<;>decide +kernel) (GN b)
 rg:=Y.built (by decide +kernel) GL
 cat:=fun k q e=>by
  rw [hP] at e
  obtain ⟨u,e2,hf⟩:=sE (ER w.params R) e
  have two:(P2.cat.all fun q=>q.1==("EnglishStemmer":Str)&&q.2.1==706)=true:=by decide
  refine aq (aab.mp two q (aah e)) fun a b=>?_
  rw [eq_of_beq a,eq_of_beq b]
  have hh:(pC.all handedIn)=true:=by decide
  exact ⟨.type "type",u,Y.own (n0 w.params).1,(kx _ _).2.2.2.2,hf,aab.mp hh u (aah e2),CK Y e e2⟩
 pc:=fun C hC=>by
  rw [hP] at hC ⊢
  obtain rfl:C=706:=aai.mp hC
  exact mC (pB _ _).1
 ro:=fun x fs e=>by
  rw [hP] at e ⊢
  obtain ⟨d,z⟩:=yz (fun q hq=>Y.obs (aao _ (aao _ (aao _ (aao _ (aao _ hq)))))) (fun t m=>m) e
  exact ⟨220,d,mC (pB _ _).2,z⟩
 ex:=fun k q e=>by
  rw [hP] at e
  obtain ⟨q',e2,hv⟩:=sE (GK w.params) e
  obtain rfl:=aaa (e.symm.trans e2)
  refine ⟨Y.own hv,?_⟩
  have g1:=Y.obs (o:=wR w.params) (aah (i:=9) rfl)
  have g2:=Y.obs (o:=wT w.params) (aah (i:=11) rfl)
  have g3:=Y.obs (o:=wV w.params) (aah (i:=13) rfl)
  have n1:=Y.obs (o:=wQ w.params) (aah (i:=8) rfl)
  have n2:=Y.obs (o:=wS w.params) (aah (i:=10) rfl)
  have n3:=Y.obs (o:=wU w.params) (aah (i:=12) rfl)
  match k,e with
  | 0,e=>cases e;exact sF g1 n1 (jd _).1.1 (jd _).1.2
  | 1,e=>cases e;exact sF g2 n2 (jd _).2.1.1 (jd _).2.1.2
  | 2,e=>cases e;exact sF g3 n3 (jd _).2.2.1 (jd _).2.2.2
  | k+3,e=>injection e
 exm:=fun k j q r e1 e2=>by
  rw [hP] at e1 e2
  have:=aab.mp (aab.mp (GI w.params R) k (List.mem_range.mpr (gU e1))) j (List.mem_range.mpr (gU e2))
  rw [List.getD_eq_getElem?_getD,List.getD_eq_getElem?_getD,e1,e2] at this
  exact eq_of_beq this
 fn:=fun f nm e=>by
  rw [hP] at e
  obtain ⟨f',e2,hv⟩:=sE (GJ w.params) e
  obtain rfl:f=f':=by
   have hf:f<12:=gU e
   rw [List.getElem?_range hf] at e2;exact aaa e2
  have hf:f<12:=gU e
  obtain ⟨r,_,ha,hr⟩:=vk (Nat.lt_of_lt_of_le hf (by decide))
  exact ⟨nZ f,Y.own hv,ha▸yA Y hr,fns f hf⟩
 mt:=fun C m f e=>by
  rw [hP] at e
  obtain ⟨k,hk,rfl,rfl,rfl⟩:=CL e
  refine aq (aab.mp (EQ w.params R) k (List.mem_range.mpr hk)) fun h1 h2=>?_
  obtain ⟨r,_,ha,hr⟩:=vj hk
  exact ⟨lq (k+12),(mC (pB _ _).1).get,eq_of_beq h1,eq_of_beq h2,ha▸yA Y hr,mts k hk⟩
 cl:=fun k q e=>by
  rw [hP] at e
  match k,e with
  | 0,e=>obtain rfl:=aaa e;exact ⟨Y.own (n0 w.params).1,35,(kx _ _).2.2.1,(kx _ _).2.2.2.1,(kx _ _).1,(kx _ _).2.1,ini⟩
  | k+1,e=>injection e
end
noncomputable def jL:Option (Arguments×List Stmt×Scope):=i9 "_law_marked" pw.main.body
theorem CN:(match jL with
 | some (a,b,sc)=>jb 1 a&&wy a.args ["word","signs","sign"] sc 2&&Ab ⟨sc,["word","signs","sign"],P2⟩ fC b
 | none=>false)=true:=by decide +kernel
theorem EV:(fS.all fun f=>pureB f.body||f.nm==("law":Str))=true:=by decide +kernel
theorem Ap:(fS[7]?).bind Fn2.dfn=jL:=by rfl
theorem iE {k:Nat}{a:Arguments}(h:jb k a=true):a=eD a.args∧a.args.length=k:=by
 obtain ⟨po,ar,va,ko,kd,kw,df⟩:=a
 simp only [jb,Bool.and_eq_true,List.isEmpty_iff,Option.isNone_iff_eq_none,beq_iff_eq] at h
 obtain ⟨⟨⟨⟨⟨⟨rfl,rfl⟩,rfl⟩,rfl⟩,rfl⟩,rfl⟩,hl⟩:=h
 exact ⟨rfl,hl⟩
theorem mE {K:Frag}{f:Fn2}{r:eS}{a:Arguments}{b:List Stmt}{sc:Scope}{k:Nat}(hl:K.lookup r.a=some (jI f r)) (hc:codeIn K (.ref (r.a - 1)) f.qual=true) (hd:f.dfn=some (a,b,sc)) (hp:jb k a=true):qJ K r.a a.args b sc:=by
 obtain ⟨hp,hn⟩:=iE hp
 refine ⟨.type "function",none,none,#[],f.nm,f.qual,.none,.none,Et r.pm,.ref (r.a - 1),.none,?_,hc⟩
 rw [hl]
 unfold jI
 rw [hd]
 rw [← hp]
 rfl
theorem sG {f:Fn2}(h:f.ok=true):∃ a b sc,f.dfn=some (a,b,sc)∧jb f.np a=true∧z7 P2 a.args f.vars sc f.nv f.body b=true:=by
 unfold Fn2.ok at h
 cases q:f.dfn with
 | none=>rw [q] at h;injection h
 | some d =>
  obtain ⟨a,b,sc⟩:=d
  rw [q] at h
  obtain ⟨h1,h2⟩:=bn h
  exact ⟨a,b,sc,rfl,h1,h2⟩
section
variable {w:World}{h:Heap}{R:cR}{mb:Str→Option Value}{n:Nat}{G:Sg}
theorem By {f:Value}{M:ib}(hM:∀ xs σ,M xs σ=none):dU pw w N1 h n f M:=fun A s σ σ' φ xs vs r R zz zz zz zz e=>by rw [hM] at e;injection e
theorem CO {f:Value}{M:List V→Option V}(hM:∀ xs,M xs=none):cZ pw w N1 h n f M:=fun A s σ φ xs vs r R zz zz zz zz e=>by rw [hM] at e;injection e
theorem vm {k:Nat}{f:Fn2}{r:eS}(e1:(gB++fS)[k]? = some f) (e2:(cT++dP)[k]? = some r) (P:Params) (R:cR):codeIn (K1 P R) (.ref (r.a - 1)) f.qual=true:=by
 have:(f,r)∈(gB++fS).zip (cT++dP):=aah (i:=k) (by rw [List.getElem?_zip_eq_some];exact ⟨e1,e2⟩)
 exact aab.mp (CJ P R) _ this
theorem w8 (Y:bP w h R mb) {k:Nat}{f:Fn2}{r:eS}(e1:fS[k]? = some f) (e2:dP[k]? = some r):(K1 w.params R).lookup r.a=some (jI f r)∧codeIn (K1 w.params R) (.ref (r.a - 1)) f.qual=true:=by
 refine ⟨w5 (aag _ (aag _ (aag _ (aao _ (aao _ (List.mem_append_left _ (pD e1 e2))))))),vm (k:=gB.length+k) ?_ ?_ _ _⟩
 ·rw [List.getElem?_append_right (Nat.le_add_right _ _),Nat.add_sub_cancel_left];exact e1
 ·rw [show gB.length+k=cT.length+k from rfl,List.getElem?_append_right (Nat.le_add_right _ _),Nat.add_sub_cancel_left];exact e2
theorem Bz (Y:bP w h R mb) {k:Nat}{f:Fn2}{r:eS}(e1:gB[k]? = some f) (e2:cT[k]? = some r):(K1 w.params R).lookup r.a=some (jI f r)∧codeIn (K1 w.params R) (.ref (r.a - 1)) f.qual=true:=by
 refine ⟨w5 (aag _ (aag _ (aag _ (aao _ (List.mem_append_left _ (pD e1 e2)))))),vm (k:=k) ?_ ?_ _ _⟩
 ·rw [List.getElem?_append_left (gU e1)];exact e1
 ·rw [List.getElem?_append_left (gU e2)];exact e2
theorem sH (hP:G.P=P2) (Y:bP w h R mb) (B:bD G pw w N1 h (K1 w.params R) mainGlobals builtinsNs n) {f:Fn2}{r:eS}(hl:(K1 w.params R).lookup r.a=some (jI f r)∧codeIn (K1 w.params R) (.ref (r.a - 1)) f.qual=true) (ok:f.ok=true):dU pw w N1 h (n+1) (.ref r.a) (gw G aO f.np f.nv f.body):=by
 obtain ⟨a,b,sc,hd,hp,ok⟩:=sG ok
 rw [← (iE hp).2]
 exact Gw B (pk B) Y.lim (mE hl.1 hl.2 hd hp) (hP▸ok)
theorem HD (hP:G.P=P2) (Y:bP w h R mb) (B:bD G pw w N1 h (K1 w.params R) mainGlobals builtinsNs n) {f:Fn2}{r:eS}(hl:(K1 w.params R).lookup r.a=some (jI f r)∧codeIn (K1 w.params R) (.ref (r.a - 1)) f.qual=true) (ok:f.ok=true) (pb:pureB f.body=true):cZ pw w N1 h (n+1) (.ref r.a) (fB (exB G aO f.body) f.np f.nv):=by
 obtain ⟨a,b,sc,hd,hp,ok⟩:=sG ok
 obtain ⟨o1,o2⟩:=bn ok
 rw [← (iE hp).2]
 have bd:=Bs (m:=aO) B (pk B) (c:=⟨sc,f.vars,G.P⟩) (body:=f.body) (stmts:=b) (hP▸o2)
 rw [pb] at bd
 exact r5 B Y.lim (mE hl.1 hl.2 hd hp) o1 bd fun xs r σ e=>qd σ e
theorem Aq (hP:G.P=P2) (Y:bP w h R mb) (B:bD G pw w N1 h (K1 w.params R) mainGlobals builtinsNs n) {f:Fn2}{r:eS}(hl:(K1 w.params R).lookup r.a=some (jI f r)∧codeIn (K1 w.params R) (.ref (r.a - 1)) f.qual=true) (hf:f.dfn=jL):cZ pw w N1 h (n+1) (.ref r.a) (fB (jE G fC) 1 2):=by
 have k:=CN
 cases q:jL with
 | none=>rw [q] at k;injection k
 | some d =>
  obtain ⟨a,b,sc⟩:=d
  rw [q] at k
  obtain ⟨⟨hp,o1⟩,o2⟩:=ew k
  have:=r5 (M:=fB (jE G fC) a.args.length 2) B Y.lim (mE hl.1 hl.2 (hf.trans q) hp) o1 (yo B (pk B) (c:=⟨sc,["word","signs","sign"],G.P⟩) (hP▸o2)) fun xs r σ e=>qd σ e
  rwa [(iE hp).2] at this
theorem vn (Y:bP w h R mb):∀ k,bD (GG k) pw w N1 h (K1 w.params R) mainGlobals builtinsNs (2*k+1)
 | 0=>yB rfl Y (fun f zz=>CO fun zz=>rfl) (fun m zz=>By fun zz zz=>rfl) ⟨0,Nat.le_refl _,By fun zz zz=>rfl⟩
 | k+1=>by
  have B:=vn Y k
  refine yB rfl Y (fun f hf=>?_) (fun m hm=>?_) ⟨2*k+1+1,Nat.le_refl _,?_⟩
  ·obtain ⟨r,hr,ha,_⟩:=vk (Nat.lt_of_lt_of_le hf (by decide))
   obtain ⟨x,hx⟩:∃ x,fS[f]? = some x:=⟨_,List.getElem?_eq_getElem (Nat.lt_of_lt_of_le hf (by decide))⟩
   rw [← ha]
   refine cZ.mono ?_ (Nat.le_succ (2*k+1+1))
   show cZ _ _ _ _ _ _ (ΨB (GG k) f)
   unfold ΨB
   cases q:Nat.beq f 7 with
   | true =>
    obtain rfl:=Nat.eq_of_beq_eq_true q
    exact Aq (sq k) Y B (w8 Y hx hr) (by rw [← Ap,hx];rfl)
   | false =>
    rw [hx]
    have notLaw:∀ i:Fin 12,(fS[i.1]?).all (fun x=>!(x.nm==("law":Str))&&(Nat.beq i.1 7||!(x.nm==("_law_marked":Str))))=true:=by decide +kernel
    have nl:=notLaw ⟨f,hf⟩
    rw [hx] at nl
    obtain ⟨n1,n2⟩:=bn (show (!(x.nm==("law":Str))&&(Nat.beq f 7||!(x.nm==("_law_marked":Str))))=true from nl)
    rw [q,Bool.false_or] at n2
    have o1:=aab.mp Cs x (aah hx)
    have o2:=aab.mp EV x (aah hx)
    rw [bE n2,Bool.false_or] at o1
    rw [bE n1,Bool.or_false] at o2
    exact HD (sq k) Y B (w8 Y hx hr) o1 o2
  ·obtain ⟨r,hr,ha,_⟩:=vj hm
   obtain ⟨x,hx⟩:∃ x,gB[m]? = some x:=⟨_,List.getElem?_eq_getElem (Nat.lt_of_lt_of_le hm (by decide))⟩
   rw [← ha]
   refine dU.mono ?_ (Nat.le_succ (2*k+1+1))
   show dU _ _ _ _ _ _ (ΦB (GG k) (m+12))
   unfold ΦB
   rw [Nat.add_sub_cancel,hx]
   exact sH (sq k) Y B (Bz Y hx hr) (aab.mp vg x (aah hx))
  ·show dU _ _ _ _ _ (.ref (35:Nat)) (ΦB (GG k) 42)
   obtain ⟨r,hr,ha⟩:∃ r,cT[30]? = some r∧r.a=35:=⟨_,rfl,rfl⟩
   obtain ⟨x,hx⟩:∃ x,gB[30]? = some x:=⟨_,rfl⟩
   rw [← ha]
   unfold ΦB
   rw [show 42 - 12=30 from rfl,hx]
   exact sH (sq k) Y B (Bz Y hx hr) (aab.mp vg x (aah hx))
theorem EW (Y:bP w h R mb):dU pw w N1 h 14 (.ref 877) (gw (GG 6) aO 1 17 k7):=by
 obtain ⟨r,hr,ha⟩:∃ r,dP[12]? = some r∧r.a=877:=⟨_,rfl,rfl⟩
 obtain ⟨x,hx,hb⟩:∃ x,fS[12]? = some x∧gw (GG 6) aO x.np x.nv x.body=gw (GG 6) aO 1 17 k7:=⟨_,rfl,rfl⟩
 rw [← ha,← hb]
 have ok:(fS[12]?).all Fn2.ok=true:=by decide +kernel
 rw [hx] at ok
 exact sH (sq 6) Y (vn Y 6) (w8 Y hx hr) ok
end
theorem qh {a:Nat}{o:Obj} : ∀ {l:List (Nat×Obj)},l.lookup a=some o→(a,o)∈l
 | (k,v) :: r,h=>by
  rw [List.lookup_cons] at h
  cases q:a==k with
  | true =>
   rw [q] at h
   obtain rfl:=beq_iff_eq.mp q
   cases h;exact aam
  | false=>rw [q] at h;exact aag _ (qh h)
theorem CP {h:Heap}{a:Addr}{m m':Str→Option Value}(x:h.Ns a m) (y:h.Ns a m'):m=m':=by
 obtain ⟨o,es,ep,e1,d1,_,f1⟩:=x
 obtain ⟨o',es',ep',e2,d2,_,f2⟩:=y
 rw [e1] at e2;cases e2
 rw [d1] at d2;cases d2
 funext n
 rw [← f1,f2]
theorem sI (k:Str) (c:Nat):txt [c]=k↔k.cps.toList=[c]:=by
 constructor
 ·rintro rfl;simp [txt]
 ·intro e
  obtain ⟨cps⟩:=k
  simp only at e
  simp only [txt,← e]
theorem yC (k:Str) (l:List Nat):k∈l.map (fun c=>txt [c])↔k.cps.toList∈l.map fun c=>[c]:=by
 simp only [List.mem_map]
 constructor
 ·rintro ⟨c,hc,e⟩;exact ⟨c,hc,((sI k c).mp e).symm⟩
 ·rintro ⟨c,hc,e⟩;exact ⟨c,hc,(sI k c).mpr e.symm⟩
theorem sJ {w:World}{xs:List Str}{tk:Nat}{o:Obj}(g:aJ w (av xs tk) o) (l:List Nat) (hx:∀ k,k∈xs↔k∈l.map fun c=>txt [c]):dR w o (eB (l.map fun c=>[c])) xs.length:=by
 have hl:(av xs tk).length=xs.length:=by
  have:=congrArg List.length (fi xs tk)
  rwa [List.length_map] at this
 rw [← hl]
 refine uA g _ fun k=>?_
 rw [← yC,← hx k]
 have:=fi xs tk
 constructor
 ·rintro ⟨y,hy,rfl⟩;rw [← this];exact List.mem_map_of_mem hy
 ·intro hk;rw [← this] at hk;obtain ⟨y,hy,e⟩:=List.mem_map.mp hk;exact ⟨y,hy,e⟩
theorem GQ:(am 1).xs=vs1.map fun c=>txt [c]:=by rw [kq];decide +kernel
theorem GR:(am 2).xs=vs2.map fun c=>txt [c]:=by rw [kr];decide +kernel
theorem GS:(am 3).xs=vs3.map fun c=>txt [c]:=by rw [kt];decide +kernel
theorem Ar {w:World}{h:Heap}{mb:Str→Option Value}(E:gL w h) (lim:h.NoLimit) (b:h.Ns builtinsNs mb) (bv:∀ x:Str,x≠"__name__"→mb x=bootBuiltins x):∃ R,bP w h R mb:=by
 obtain ⟨o1,g1,e1⟩:=E.s1
 obtain ⟨o2,g2,e2⟩:=E.s2
 obtain ⟨o3,g3,e3⟩:=E.s3
 have t1:=sJ g1 vs1 (fun k=>by rw [GQ])
 have t2:=sJ g2 vs2 (fun k=>by rw [GR])
 have t3:=sJ g3 vs3 (fun k=>by rw [GS])
 rw [show (am 1).xs.length=6 by rw [kq];rfl] at t1
 rw [show (am 2).xs.length=9 by rw [kr];rfl] at t2
 rw [show (am 3).xs.length=10 by rw [kt];rfl] at t3
 obtain ⟨es1,ep1,st1,rfl⟩:=bY g1
 obtain ⟨es2,ep2,st2,rfl⟩:=bY g2
 obtain ⟨es3,ep3,st3,rfl⟩:=bY g3
 refine ⟨⟨fun zz=>default,fun a=>if a=232 then es1 else if a=233 then es2 else es3,fun a=>if a=232 then ep1 else if a=233 then ep2 else ep3,fun a=>if a=232 then st1 else if a=233 then st2 else st3⟩,?_,lim,b,bv,t1,t2,t3⟩
 ·intro a o e
  have m:=qh e
  unfold K1 at m
  rcases List.mem_cons.mp m with q | m
  ·cases q;exact e1
  rcases List.mem_cons.mp m with q | m
  ·cases q;exact e2
  rcases List.mem_cons.mp m with q | m
  ·cases q;exact e3
  exact E.K (a,o) m
theorem qi {w:World}{P:Params}{φ:Phi}{h:Heap} : ∀ {zs:List Int}{vs:List Value},WellAll P h vs (zs.map .int)→Reps w φ h (zs.map .int) vs
 | [],_,x=>by cases x;show ([]:List Value)=[];rfl
 | z :: zs,_,x=>by
  cases x with
  | cons a b =>
   cases a with
   | int i t =>
    rw [List.map_cons,aB]
    exact ⟨_,_,rfl,by rw [cW];exact ⟨t,rfl⟩,qi b⟩
theorem GT {xs:List WData}(h:PySem.Challenge.rw_is0019_02.row.pre.holds [] { args:=[.list xs]} = true):xs.length≤63:=by
 have h':((WTm.and (.not (.lt (.lit (.int 63)) (.len (.arg 0)))) (.lit (.bool true))).holds [] { args:=[.list xs]})=true:=h
 by_cases q:xs.length≤63
 ·exact q
 ·have l:less? (.int 63) (.int (xs.length:Int))=some true:=by
   show some (decide ((63:Int)<(xs.length:Int)))=some true
   rw [decide_eq_true (by omega)]
  simp [WTm.holds,WTm.value,l] at h'
noncomputable def pE:Prop:=∀ zs:List Int,zs.length≤63→∃ σ',gw (GG 6) aO 1 17 k7 [.list (zs.map .int)] []=some (.bool true,σ')
set_option tactic.hygienic true in
theorem EX (LR:pE) (d:DefRec) (kwd:List (Str×Expr)) (hdef:defOf q01 "law"=some (d,kwd)):WalkO q01 eh (fun zz zz=>True) gL PySem.Challenge.rw_is0019_02.row.toRowW d kwd fun f vs=>PySem.call f vs:=by
 intro w s₀ s₁ mg mb G Y a o pm cd doc dV kV ho hd hcd hD hmg hg args vals as hpre hlay hrd hwl hlo
 obtain ⟨R,Z⟩:=Ar Y G.T.nolimit G.T.b G.T.builtins
 have e:=CP G.T.g Z.ns
 rw [e,defOf_name hdef,(n0 w.params).2.2.2] at hmg
 obtain rfl:(877:Addr)=a:=by simpa using hmg
 obtain ⟨h1,h2⟩:=pre_splitW hpre
 obtain ⟨x,r,rfl,h3,h4⟩:=hasAllW_cons h1
 obtain rfl:=hasAllW_nil h4
 obtain ⟨xs,rfl,h5⟩:=hasW_list h3
 obtain ⟨zs,rfl⟩:=items_int h5
 have h63:=GT h2
 rw [List.length_map] at h63
 obtain ⟨σ',run⟩:=LR zs h63
 cases hwl with
 | cons wl wn =>
  cases wn
  cases wl with
  | list hget wi =>
   rename_i a' vs
   have rep:Reps w ⟨[],[]⟩ s₁.heap [.list (zs.map .int)] [.ref a']:=by
    rw [aB]
    refine ⟨_,_,rfl,?_,by rw [aN]⟩
    rw [cX]
    exact ⟨by rw [List.length_map];unfold big;lia,a',vs,0,rfl,by simp [au],hget,qi wi⟩
   have rel:Rel N1 w s₁.heap [] ⟨[],[]⟩ s₁.heap:=⟨Ext.refl _,rfl,(fun b hb=>nomatch hb),List.nodup_nil,(fun b hb=>nomatch hb),(fun k ob p hk=>nomatch hk)⟩
   refine (EW Z).call callerA _ s₁ [] σ' ⟨[],[]⟩ _ _ (.bool true) _ ⟨rfl,by decide,by decide⟩ ⟨[],rfl,fun zz m=>nomatch m⟩ rel rep run ?_
   intro φ' h' tk u S R' ru
   rw [dG] at ru
   subst ru
   have keep:∀ b o,s₁.heap.get? b=some o→h'.get? b=some o:=R'.base
   exact ⟨.inl ⟨_,.bool true,[],rfl,fun zz=>rfl,.bool true,(by kernel_rfl),fun zz=>⟨.nil,fun zz ha=>nomatch ha⟩⟩,.of_keep keep,rfl,.of_eq hg⟩
theorem EY:pw.bare:=⟨rfl,rfl,rfl,rfl,rfl,by decide +kernel⟩
theorem EZ:(chainsOk q01&&opensWell pw&&(frees PySem.Challenge.rw_is0019_02.row.toRowW&&PySem.Challenge.rw_is0019_02.row.toRowW.within.isEmpty))=true:=by decide +kernel
theorem w9:PySem.Challenge.rw_is0019_02.row.toRowW.promised:=by w_witness2
theorem GU:∃ d kwd,defOf q01 "law"=some (d,kwd)∧pw.theDef "law"=some (d.params,d.body,d.scope)∧kwWritten? d.params.kwonlyargs d.params.kw_defaults=some kwd:=⟨_,_,by rfl,by rfl,by rfl⟩
theorem GV (LR:pE) (said:PySem.Challenge.rw_is0019_02.row.wellSaid=true):PySem.Challenge.rw_is0019_02.row.Holds:=by
 obtain ⟨d,kwd,h1,h2,h3⟩:=GU
 exact holds_open (q:=q01) (loose:=eh) (Xt:=fun zz=>true) (XP:=fun zz zz=>True) (Yf:=w4) (Ya:=sA) (YP:=gL) (N:=27000) EP HC (fun zz zz zz E k=>E.keeps k) (fun zz zz=>trivial) (fun zz zz zz zz zz=>trivial) h1 h2 h3 (fun s zz=>recFacts_nil rfl) rfl said EZ EY w9 (EX LR d kwd h1)
set_option maxHeartbeats 8000000 in
theorem E0:PySem.Challenge.rw_is0019_02.wellSaid=true:=by
 unfold OpenLaw.wellSaid
 iterate 18 (refine look_both ?_ ?_)
 all_goals first
  | (rw [PySem.W.Fast.te17960256430627541270];as_aux_lemma=>kernel_rfl)
  | (rw [PySem.W.Fast.te8326940854005059898];as_aux_lemma=>kernel_rfl)
  | (rw [PySem.W.Fast.te17119622794617984870];as_aux_lemma=>kernel_rfl)
  | (as_aux_lemma=>kernel_rfl)
noncomputable abbrev aP:=Out→Rho→St→Prop
noncomputable def RS (G:Sg) (n:Nat) (t:S) (ρ:Rho) (σ:St) (Q:aP):Prop:=∃ o ρ' σ',exS G n t ρ σ=some (o,ρ',σ')∧Q o ρ' σ'
noncomputable def RB (G:Sg) (n:Nat) (b:List S) (ρ:Rho) (σ:St) (Q:aP):Prop:=∃ o ρ' σ',exB G n b ρ σ=some (o,ρ',σ')∧Q o ρ' σ'
noncomputable def RW (G:Sg) (n:Nat) (c:X) (b:List S) (k:Nat) (ρ:Rho) (σ:St) (Q:aP):Prop:=∃ o ρ' σ',iB (fun ρ σ=>(ev G ρ σ c).bind fun p=>(ck p.1).map (·,p.2)) (fun ρ σ=>exB G n b ρ σ) k ρ σ=some (o,ρ',σ')∧Q o ρ' σ'
noncomputable def RF (G:Sg) (n:Nat) (j:Nat) (b:List S) (its:List V) (ρ:Rho) (σ:St) (Q:aP):Prop:=∃ o ρ' σ',kX (fun v ρ=>some (ρ.set j (some v))) (fun ρ σ=>exB G n b ρ σ) its ρ σ=some (o,ρ',σ')∧Q o ρ' σ'
noncomputable def bW (k:Rho→St→Prop) (Q:aP):aP
 | .next,ρ,σ=>k ρ σ
 | .brk,ρ,σ=>Q .brk ρ σ
 | .cont,ρ,σ=>Q .cont ρ σ
 | .ret v,ρ,σ=>Q (.ret v) ρ σ
 | .exc k,ρ,σ=>Q (.exc k) ρ σ
noncomputable def n8 (k:Rho→St→Prop) (Q:aP):aP
 | .next,ρ,σ=>k ρ σ
 | .cont,ρ,σ=>k ρ σ
 | .brk,ρ,σ=>Q .next ρ σ
 | .ret v,ρ,σ=>Q (.ret v) ρ σ
 | .exc k,ρ,σ=>Q (.exc k) ρ σ
noncomputable def xa (j:Nat) (Q:aP):aP
 | .next,ρ,σ=>Q .next ρ σ
 | .cont,ρ,σ=>Q .cont ρ σ
 | .brk,ρ,σ=>Q .brk ρ σ
 | .ret v,ρ,σ=>Q (.ret v) ρ σ
 | .exc k,ρ,σ=>if k==j then Q .next ρ σ else Q (.exc k) ρ σ
section
variable {G:Sg}{n k:Nat}{t:S}{b r:List S}{ρ ρ':Rho}{σ σ' σ1:St}{Q:aP}{c x:X}{v:V}{i j:Nat}
theorem RB.nil (h:Q .next ρ σ):RB G n [] ρ σ Q:=⟨_,_,_,rfl,h⟩
theorem RB.cons (h:RS G n t ρ σ (bW (fun ρ σ=>RB G n r ρ σ Q) Q)):RB G n (t :: r) ρ σ Q:=by
 obtain ⟨o,ρ1,σ1,e,h⟩:=h
 have e2:exB G n (t :: r) ρ σ=wm (o,ρ1,σ1) (exB G n r ρ1 σ1):=by
  show (exS G n t ρ σ).bind _=_
  rw [e];rfl
 cases o with
 | next=>obtain ⟨o,ρ2,σ2,e3,h⟩:=h;exact ⟨o,ρ2,σ2,e2.trans e3,h⟩
 | _=>exact ⟨_,_,_,e2,h⟩
theorem RB.step (e:exS G n t ρ σ=some (.next,ρ',σ')) (h:RB G n r ρ' σ' Q):RB G n (t :: r) ρ σ Q:=.cons ⟨_,_,_,e,h⟩
theorem RB.ret (e:ev G ρ σ x=some (v,σ')) (h:Q (.ret v) ρ σ'):RB G n (.ret x :: r) ρ σ Q:=.cons ⟨.ret v,ρ,σ',by show (ev G ρ σ x).map _=_;rw [e];rfl,h⟩
theorem RB.set (e:ev G ρ σ x=some (v,σ')) (h:RB G n r (ρ.set i (some v)) σ' Q):RB G n (.set i x :: r) ρ σ Q:=.step (by show (ev G ρ σ x).map _=_;rw [e];rfl) h
theorem RB.expr (e:ev G ρ σ x=some (v,σ')) (h:RB G n r ρ σ' Q):RB G n (.expr x :: r) ρ σ Q:=.step (by show (ev G ρ σ x).map _=_;rw [e];rfl) h
theorem RB.brk (h:Q .brk ρ σ):RB G n (.brk :: r) ρ σ Q:=.cons ⟨_,_,_,rfl,h⟩
theorem RB.cont (h:Q .cont ρ σ):RB G n (.cont :: r) ρ σ Q:=.cons ⟨_,_,_,rfl,h⟩
theorem RB.raise (e:(G.P.ex[k]?).isSome=true) (h:Q (.exc k) ρ σ):RB G n (.raise k :: r) ρ σ Q:=by
 obtain ⟨q,e⟩:=Option.isSome_iff_exists.mp e
 exact .cons ⟨.exc k,ρ,σ,by show (G.P.ex[k]?).map _=_;rw [e];rfl,h⟩
theorem RB.ite {p:Bool}{a:List S}(e:ev G ρ σ c=some (.bool p,σ')) (h1:p=true→RB G n a ρ σ' (bW (fun ρ σ=>RB G n r ρ σ Q) Q)) (h2:p=false→RB G n b ρ σ' (bW (fun ρ σ=>RB G n r ρ σ Q) Q)):RB G n (.ite c a b :: r) ρ σ Q:=by
 refine .cons ?_
 cases p with
 | true=>obtain ⟨o,ρ1,σ1,e1,h⟩:=h1 rfl;exact ⟨o,ρ1,σ1,by show (ev G ρ σ c).bind _=_;rw [e];exact e1,h⟩
 | false=>obtain ⟨o,ρ1,σ1,e1,h⟩:=h2 rfl;exact ⟨o,ρ1,σ1,by show (ev G ρ σ c).bind _=_;rw [e];exact e1,h⟩
theorem RB.iteT {a:List S}(e:ev G ρ σ c=some (.bool true,σ')) (h1:RB G n a ρ σ' (bW (fun ρ σ=>RB G n r ρ σ Q) Q)):RB G n (.ite c a b :: r) ρ σ Q:=.ite e (fun zz=>h1) (fun z=>Bool.noConfusion z)
theorem RB.iteF {a:List S}(e:ev G ρ σ c=some (.bool false,σ')) (h1:RB G n b ρ σ' (bW (fun ρ σ=>RB G n r ρ σ Q) Q)):RB G n (.ite c a b :: r) ρ σ Q:=.ite e (fun z=>Bool.noConfusion z) fun zz=>h1
theorem RB.skip {a:List S}(e:ev G ρ σ c=some (.bool false,σ')) (h:RB G n r ρ σ' Q):RB G n (.ite c a [] :: r) ρ σ Q:=.iteF e (.nil h)
theorem RB.try1 (h:RB G n b ρ σ (xa k (bW (fun ρ σ=>RB G n r ρ σ Q) Q))):RB G n (.try1 b k :: r) ρ σ Q:=by
 refine .cons ?_
 obtain ⟨o,ρ1,σ1,e,h⟩:=h
 refine ⟨(rN k (o,ρ1,σ1)).1,(rN k (o,ρ1,σ1)).2.1,(rN k (o,ρ1,σ1)).2.2,by show (exB G n b ρ σ).map _=_;rw [e];rfl,?_⟩
 cases o with
 | exc j =>
  unfold xa at h
  unfold rN
  dsimp only at h ⊢
  cases q:j==k with
  | true=>rw [q,if_pos rfl] at h;rw [if_pos rfl];exact h
  | false=>rw [q,if_neg aaj] at h;rw [if_neg aaj];exact h
 | _=>exact h
theorem RB.whl (h:RW G n c b n ρ σ (bW (fun ρ σ=>RB G n r ρ σ Q) Q)):RB G n (.whl c b :: r) ρ σ Q:=.cons h
theorem RW.turn (e:ev G ρ σ c=some (.bool true,σ')) (h:RB G n b ρ σ' (n8 (fun ρ σ=>RW G n c b k ρ σ Q) Q)):RW G n c b (k+1) ρ σ Q:=by
 obtain ⟨o,ρ1,σ1,e1,h⟩:=h
 have e2:iB (fun ρ σ=>(ev G ρ σ c).bind fun p=>(ck p.1).map (·,p.2)) (fun ρ σ=>exB G n b ρ σ) (k+1) ρ σ=kW (o,ρ1,σ1) (iB (fun ρ σ=>(ev G ρ σ c).bind fun p=>(ck p.1).map (·,p.2)) (fun ρ σ=>exB G n b ρ σ) k ρ1 σ1):=by
  rw [jD,e]
  show (exB G n b ρ σ').bind _=_
  rw [e1];rfl
 cases o with
 | next=>obtain ⟨o,ρ2,σ2,e3,h⟩:=h;exact ⟨o,ρ2,σ2,e2.trans e3,h⟩
 | cont=>obtain ⟨o,ρ2,σ2,e3,h⟩:=h;exact ⟨o,ρ2,σ2,e2.trans e3,h⟩
 | _=>exact ⟨_,_,_,e2,h⟩
theorem RW.done (e:ev G ρ σ c=some (.bool false,σ')) (h:Q .next ρ σ'):RW G n c b (k+1) ρ σ Q:=⟨.next,ρ,σ',by rw [jD,e];rfl,h⟩
theorem RB.for1 {its:List V}(e:ev G ρ σ x=some (v,σ')) (e2:eH v=some its) (h:RF G n j b its ρ σ' (bW (fun ρ σ=>RB G n r ρ σ Q) Q)):RB G n (.for1 j x b :: r) ρ σ Q:=by
 refine .cons ?_
 obtain ⟨o,ρ1,σ1,e1,h⟩:=h
 exact ⟨o,ρ1,σ1,by show (ev G ρ σ x).bind _=_;rw [e];show (eH v).bind _=_;rw [e2];exact e1,h⟩
theorem RF.nil (h:Q .next ρ σ):RF G n j b [] ρ σ Q:=⟨_,_,_,rfl,h⟩
theorem RF.turn {u:V}{its:List V}(h:RB G n b (ρ.set j (some u)) σ (n8 (fun ρ σ=>RF G n j b its ρ σ Q) Q)):RF G n j b (u :: its) ρ σ Q:=by
 obtain ⟨o,ρ1,σ1,e1,h⟩:=h
 have e2:kX (fun v ρ=>some (ρ.set j (some v))) (fun ρ σ=>exB G n b ρ σ) (u :: its) ρ σ=kW (o,ρ1,σ1) (kX (fun v ρ=>some (ρ.set j (some v))) (fun ρ σ=>exB G n b ρ σ) its ρ1 σ1):=by
  show (exB G n b (ρ.set j (some u)) σ).bind _=_
  rw [e1];rfl
 cases o with
 | next=>obtain ⟨o,ρ2,σ2,e3,h⟩:=h;exact ⟨o,ρ2,σ2,e2.trans e3,h⟩
 | cont=>obtain ⟨o,ρ2,σ2,e3,h⟩:=h;exact ⟨o,ρ2,σ2,e2.trans e3,h⟩
 | _=>exact ⟨_,_,_,e2,h⟩
theorem RB.mono {P:aP}(h:RB G n b ρ σ P) (k:∀ o ρ σ,P o ρ σ→Q o ρ σ):RB G n b ρ σ Q:=let ⟨o,ρ,σ,e,h⟩:=h;⟨o,ρ,σ,e,k _ _ _ h⟩
end
noncomputable def aA (M:ib) (xs:List V) (σ:St) (Q:V→St→Prop):Prop:=∃ v σ',M xs σ=some (v,σ')∧Q v σ'
noncomputable def dN (Q:V→St→Prop):aP
 | .ret v,_,σ=>Q v σ
 | .next,_,σ=>Q .none σ
 | .brk,_,_=>False
 | .cont,_,_=>False
 | .exc _,_,_=>False
theorem aw {G:Sg}{m k nv:Nat}{body:List S}{xs:List V}{σ:St}{Q:V→St→Prop}(hl:xs.length=k) (h:RB G m body (xs.map some++List.replicate nv none) σ (dN Q)):aA (gw G m k nv body) xs σ Q:=by
 obtain ⟨o,ρ',σ',e,h⟩:=h
 have e2:gw G m k nv body xs σ=z6 (o,ρ',σ'):=by
  unfold gw im
  rw [if_pos hl,e];rfl
 cases o with
 | ret v=>exact ⟨v,σ',e2,h⟩
 | next=>exact ⟨_,σ',e2,h⟩
 | _=>exact h.elim
section
variable {k n:Nat}{ρ:Rho}{σ:St}{Q:aP}{r:List S}
theorem As:∀ m:Fin 30,P2.meth 706 (m.1+12)=some (m.1+12):=by decide
theorem pF {G:Sg}{m:Nat}{xs:List X}{vs:List V}{fs:ah}{a:X}(hP:G.P=P2) (hm:m<30) (ha:ev G ρ [.inst 706 fs] a=some (.obj 0,[.inst 706 fs])) (hx:evs G ρ [.inst 706 fs] xs=some (vs,[.inst 706 fs])) (hn:(co fs (m+12)).isNone=true):ev G ρ [.inst 706 fs] (.meth a (m+12) xs)=G.Φ (m+12) (.obj 0 :: vs) [.inst 706 fs]:=by
 show (ev G ρ _ a).bind _=_
 rw [ha]
 show (evs G ρ _ xs).bind _=_
 rw [hx]
 show (if (co fs (m+12)).isNone=true then (G.P.meth 706 (m+12)).bind fun f=>G.Φ f (.obj 0 :: vs) [.inst 706 fs] else none)=_
 rw [if_pos hn,hP,As ⟨m,hm⟩];rfl
end
noncomputable def st (w:List Nat) (c l lb bra ket:Int) (ex:ah):St:=[.inst 706 ((0,.str w) :: (1,.int c) :: (2,.int l) :: (3,.int lb) :: (4,.int bra) :: (5,.int ket) :: ex)]
noncomputable def cz (ex:ah):Prop:=∀ m:Nat,(co ex (m+12)).isNone=true
noncomputable def bo (ρ:Rho):Prop:=ρ[0]? = some (some (.obj 0))
section
variable {G:Sg}{n k:Nat}{r:List S}{ρ:Rho}{Q:aP}{x:X}{w w':List Nat}{c l lb bra ket i:Int}{ex:ah}
theorem dJ {σ:St}(h:bo ρ):ev G ρ σ (.loc 0)=some (.obj 0,σ):=by
 show (ρ[0]?).bind _=_
 rw [h];rfl
theorem cf {σ σ':St}{a:Nat}{v:V}(h:bo ρ) (e:ev G ρ σ x=some (v,σ)) (p:ij G.P σ (.obj 0) a v=some σ'):exS G n (.setA (.loc 0) a x) ρ σ=some (.next,ρ,σ'):=by
 show (ev G ρ σ x).bind _=_
 rw [e]
 show (ev G ρ σ (.loc 0)).bind _=_
 rw [dJ h]
 show (ij G.P σ (.obj 0) a v).map _=_
 rw [p];rfl
theorem pG {σ σ':St}{a:Nat}{op:Aop}{old v u:V}(h:bo ρ) (e1:cL G.P σ (.obj 0) a=some old) (e:ev G ρ σ x=some (v,σ)) (o:op.run old v=some u) (p:ij G.P σ (.obj 0) a u=some σ'):exS G n (.augA (.loc 0) a op x) ρ σ=some (.next,ρ,σ'):=by
 show (ev G ρ σ (.loc 0)).bind _=_
 rw [dJ h]
 show (cL G.P σ (.obj 0) a).bind _=_
 rw [e1]
 show (ev G ρ σ x).bind _=_
 rw [e]
 show (op.run old v).bind _=_
 rw [o]
 show (ij G.P σ (.obj 0) a u).map _=_
 rw [p];rfl
theorem RB.set0 (hP:G.P=P2) (h:bo ρ) (e:ev G ρ (st w c l lb bra ket ex) x=some (.str w',st w c l lb bra ket ex)) (k:RB G n r ρ (st w' c l lb bra ket ex) Q):RB G n (.setA (.loc 0) 0 x :: r) ρ (st w c l lb bra ket ex) Q:=.step (cf h e (by rw [hP];rfl)) k
theorem RB.set1 (hP:G.P=P2) (h:bo ρ) (e:ev G ρ (st w c l lb bra ket ex) x=some (.int i,st w c l lb bra ket ex)) (k:RB G n r ρ (st w i l lb bra ket ex) Q):RB G n (.setA (.loc 0) 1 x :: r) ρ (st w c l lb bra ket ex) Q:=.step (cf h e (by rw [hP];rfl)) k
theorem RB.set2 (hP:G.P=P2) (h:bo ρ) (e:ev G ρ (st w c l lb bra ket ex) x=some (.int i,st w c l lb bra ket ex)) (k:RB G n r ρ (st w c i lb bra ket ex) Q):RB G n (.setA (.loc 0) 2 x :: r) ρ (st w c l lb bra ket ex) Q:=.step (cf h e (by rw [hP];rfl)) k
theorem RB.set3 (hP:G.P=P2) (h:bo ρ) (e:ev G ρ (st w c l lb bra ket ex) x=some (.int i,st w c l lb bra ket ex)) (k:RB G n r ρ (st w c l i bra ket ex) Q):RB G n (.setA (.loc 0) 3 x :: r) ρ (st w c l lb bra ket ex) Q:=.step (cf h e (by rw [hP];rfl)) k
theorem RB.set4 (hP:G.P=P2) (h:bo ρ) (e:ev G ρ (st w c l lb bra ket ex) x=some (.int i,st w c l lb bra ket ex)) (k:RB G n r ρ (st w c l lb i ket ex) Q):RB G n (.setA (.loc 0) 4 x :: r) ρ (st w c l lb bra ket ex) Q:=.step (cf h e (by rw [hP];rfl)) k
theorem RB.set5 (hP:G.P=P2) (h:bo ρ) (e:ev G ρ (st w c l lb bra ket ex) x=some (.int i,st w c l lb bra ket ex)) (k:RB G n r ρ (st w c l lb bra i ex) Q):RB G n (.setA (.loc 0) 5 x :: r) ρ (st w c l lb bra ket ex) Q:=.step (cf h e (by rw [hP];rfl)) k
theorem RB.add1 (hP:G.P=P2) (h:bo ρ) (e:ev G ρ (st w c l lb bra ket ex) x=some (.int i,st w c l lb bra ket ex)) (k:RB G n r ρ (st w (c+i) l lb bra ket ex) Q):RB G n (.augA (.loc 0) 1 .add x :: r) ρ (st w c l lb bra ket ex) Q:=.step (pG h (by rw [hP];rfl) e rfl (by rw [hP];rfl)) k
theorem RB.sub1 (hP:G.P=P2) (h:bo ρ) (e:ev G ρ (st w c l lb bra ket ex) x=some (.int i,st w c l lb bra ket ex)) (k:RB G n r ρ (st w (c - i) l lb bra ket ex) Q):RB G n (.augA (.loc 0) 1 .sub x :: r) ρ (st w c l lb bra ket ex) Q:=.step (pG h (by rw [hP];rfl) e rfl (by rw [hP];rfl)) k
theorem RB.add2 (hP:G.P=P2) (h:bo ρ) (e:ev G ρ (st w c l lb bra ket ex) x=some (.int i,st w c l lb bra ket ex)) (k:RB G n r ρ (st w c (l+i) lb bra ket ex) Q):RB G n (.augA (.loc 0) 2 .add x :: r) ρ (st w c l lb bra ket ex) Q:=.step (pG h (by rw [hP];rfl) e rfl (by rw [hP];rfl)) k
end
noncomputable abbrev sP (r b:List Nat) (lb bra ket:Int) (ex:ah):St:=st (r.reverse++b) r.length (r.length+b.length:Nat) lb bra ket ex
theorem gm (r b:List Nat) (x:Nat) (lb bra ket:Int) (ex:ah):st (r.reverse++x :: b) ((r.length:Int)+1) (r.length+(x :: b).length:Nat) lb bra ket ex=sP (x :: r) b lb bra ket ex:=by
 unfold sP
 rw [List.reverse_cons,aap,List.length_cons,List.length_cons]
 have:r.length+(b.length+1)=r.length+1+b.length:=by omega
 rw [this];rfl
theorem sK (r b:List Nat) (x:Nat) (lb bra ket:Int) (ex:ah):st ((x :: r).reverse++b) (((x :: r).length:Nat) - 1:Int) ((x :: r).length+b.length:Nat) lb bra ket ex=sP r (x :: b) lb bra ket ex:=by
 unfold sP
 rw [List.reverse_cons,aap,List.length_cons,List.length_cons]
 have e1:((r.length+1:Nat):Int) - 1=r.length:=by omega
 have e2:r.length+1+b.length=r.length+(b.length+1):=by omega
 rw [e1,e2];rfl
theorem je (r b:List Nat) (x:Nat):eR (.str (r.reverse++x :: b)) (.int (r.length:Nat))=some (.str [x]):=by
 have e:seqIndex? ((r.length:Nat):Int) (r.reverse++x :: b).length=some r.length:=by
  unfold seqIndex?
  have h:¬ ((r.length:Nat):Int)<0:=by lia
  rw [if_neg h]
  simp;omega
 show (seqIndex? _ _).bind _=_
 rw [e]
 show ((r.reverse++x :: b)[r.length]?).map _=_
 rw [List.getElem?_append_right (by simp)]
 simp
theorem lw (r b:List Nat) (x:Nat):eR (.str ((x :: r).reverse++b)) (.int (((x :: r).length:Nat) - 1:Int))=some (.str [x]):=by
 have e:(((x :: r).length:Nat) - 1:Int)=(r.length:Nat):=by rw [List.length_cons];omega
 rw [e,List.reverse_cons,aap]
 exact je r b x
theorem cA {G:Sg}{ρ:Rho}{σ σ':St}{x:X}{P:Prop}{_:Decidable P}(e:ev G ρ σ x=some (.bool (decide P),σ')) (h:P):ev G ρ σ x=some (.bool true,σ'):=by rw [e,decide_eq_true h]
theorem cG {G:Sg}{ρ:Rho}{σ σ':St}{x:X}{P:Prop}{_:Decidable P}(e:ev G ρ σ x=some (.bool (decide P),σ')) (h:¬ P):ev G ρ σ x=some (.bool false,σ'):=by rw [e,decide_eq_false h]
theorem ne_true_of_eq_false {p:Bool}(h:p=false):¬ p=true:=fun q=>by rw [h] at q;injection q
section
variable {k:Nat}{w:List Nat}{c l lb bra ket:Int}{ex:ah}{r b:List Nat}{s:V}{t:Nat→Bool}
theorem pH (k:Nat) (x:List Nat):aA ((GG (k+1)).Φ 12) [.obj 0,.str x] (st w c l lb bra ket ex) fun v σ=>v = .none∧σ=st x 0 x.length 0 0 x.length ex :=
 aw rfl (.set0 rfl rfl rfl (.set1 rfl rfl rfl (.set2 rfl rfl rfl (.set3 rfl rfl rfl (.set4 rfl rfl rfl (.set5 rfl rfl rfl (.nil ⟨rfl,rfl⟩)))))))
theorem pI (k:Nat):aA ((GG (k+1)).Φ 13) [.obj 0] (st w c l lb bra ket ex) fun v σ=>v = .str w∧σ=st w c l lb bra ket ex:=aw rfl (.ret rfl ⟨rfl,rfl⟩)
noncomputable def Grp (s:V) (t:Nat→Bool):Prop:=∀ x,inV (.str [x]) s=some (t x)
theorem lx {G:Sg}{ρ:Rho}{σ:St}{a i y:X}{va:V}{vi:Int}{x:Nat}{o:Cop}{p:Bool}(g:Grp s t) (ea:ev G ρ σ a=some (va,σ)) (ei:ev G ρ σ i=some (.int vi,σ)) (hx:eR va (.int vi)=some (.str [x])) (ey:ev G ρ σ y=some (s,σ)) (ho:(o = .isin∧p=t x)∨(o = .notin∧p = !t x)):ev G ρ σ (.cmp o (.idx a i) y)=some (.bool p,σ):=by
 have e1:ev G ρ σ (.idx a i)=some (.str [x],σ):=by
  show (ev G ρ σ a).bind _=_
  rw [ea];show (ev G ρ σ i).bind _=_
  rw [ei];show (eR va (.int vi)).map _=_
  rw [hx];rfl
 show (ev G ρ σ (.idx a i)).bind _=_
 rw [e1];show (ev G ρ σ y).bind _=_
 rw [ey];show (zF o (.str [x]) s).map _=_
 rcases ho with ⟨rfl,rfl⟩ | ⟨rfl,rfl⟩
 ·show (inV (.str [x]) s).map _=_;rw [g x];rfl
 ·show ((inV (.str [x]) s).map _).map _=_;rw [g x];rfl
theorem pJ (l:List Nat):Grp (fA l) fun c=>l.contains c:=fun x=>by
 show some (decide ([x]∈l.map fun c=>[c]))=_
 congr 1
 rw [Bool.eq_iff_iff,decide_eq_true_iff,aak,List.mem_map]
 constructor
 ·rintro ⟨a,h,e⟩;rw [← List.cons.inj e |>.1];exact h
 ·exact fun h=>⟨x,h,rfl⟩
theorem gV (l:List Nat):Grp (.str l) fun c=>l.contains c:=fun x=>by
 show some (decide (x∈l))=_
 congr 1
 rw [Bool.eq_iff_iff,decide_eq_true_iff,aak]
noncomputable def inF (t:Nat→Bool) (r:List Nat):List Nat→Bool×List Nat×List Nat
 | []=>(false,r,[])
 | x :: b=>if t x=true then (true,x :: r,b) else (false,r,x :: b)
theorem sL {n:Nat} : ((n:Nat):Int)≥((n+([]:List Nat).length:Nat):Int):=by simp
theorem ly {n x:Nat}{b:List Nat} : ¬ ((n:Nat):Int)≥((n+(x :: b).length:Nat):Int):=by rw [List.length_cons];omega
theorem fU (k:Nat) (g:Grp s t):aA ((GG (k+1)).Φ 14) [.obj 0,s] (sP r b lb bra ket ex) fun v σ=>v = .bool (inF t r b).1∧σ=sP (inF t r b).2.1 (inF t r b).2.2 lb bra ket ex:=by
 cases b with
 | nil=>exact aw rfl (.iteT (cA rfl sL) (.ret rfl ⟨rfl,rfl⟩))
 | cons x b =>
  refine aw rfl (.skip (cG rfl ly) (.ite (lx g rfl rfl (je r b x) rfl (.inr ⟨rfl,rfl⟩)) (fun h=>?_) fun h=>?_))
  ·have h:t x=false:=bE h
   rw [show inF t r (x :: b)=_ from if_neg (ne_true_of_eq_false h)]
   exact .ret rfl ⟨rfl,rfl⟩
  ·have h:t x=true:=by cases q:t x<;>rw [q] at h<;>first | rfl | injection h
   rw [show inF t r (x :: b)=_ from if_pos h]
   refine .nil (.add1 rfl rfl rfl ?_)
   rw [gm]
   exact .ret rfl ⟨rfl,rfl⟩
noncomputable def inB (t:Nat→Bool) (b:List Nat):List Nat→Bool×List Nat×List Nat
 | []=>(false,[],b)
 | x :: r=>if t x=true then (true,r,x :: b) else (false,x :: r,b)
theorem sM:(([]:List Nat).length:Int)≤0:=Int.le_refl _
theorem ky {x:Nat}{r:List Nat} : ¬ (((x :: r).length:Nat):Int)≤0:=by rw [List.length_cons];exact Int.not_le.mpr (Int.ofNat_lt.mpr (Nat.succ_pos _))
theorem dq {p:Bool}(h:(!p)=false):p=true:=by cases p<;>first | rfl | injection h
theorem eT (k:Nat) (g:Grp s t):aA ((GG (k+1)).Φ 16) [.obj 0,s] (sP r b 0 bra ket ex) fun v σ=>v = .bool (inB t b r).1∧σ=sP (inB t b r).2.1 (inB t b r).2.2 0 bra ket ex:=by
 cases r with
 | nil=>exact aw rfl (.iteT (cA rfl sM) (.ret rfl ⟨rfl,rfl⟩))
 | cons x r =>
  refine aw rfl (.skip (cG rfl ky) (.ite (lx g rfl rfl (lw r b x) rfl (.inr ⟨rfl,rfl⟩)) (fun h=>?_) fun h=>?_))
  ·have h:t x=false:=bE h
   rw [show inB t b (x :: r)=_ from if_neg (ne_true_of_eq_false h)]
   exact .ret rfl ⟨rfl,rfl⟩
  ·rw [show inB t b (x :: r)=_ from if_pos (dq h)]
   refine .nil (.sub1 rfl rfl rfl ?_)
   rw [sK]
   exact .ret rfl ⟨rfl,rfl⟩
theorem cU (k:Nat) (g:Grp s t):aA ((GG (k+1)).Φ 18) [.obj 0,s] (sP r b 0 bra ket ex) fun v σ=>v = .bool (inB (fun x=>!t x) b r).1∧σ=sP (inB (fun x=>!t x) b r).2.1 (inB (fun x=>!t x) b r).2.2 0 bra ket ex:=by
 cases r with
 | nil=>exact aw rfl (.iteT (cA rfl sM) (.ret rfl ⟨rfl,rfl⟩))
 | cons x r =>
  refine aw rfl (.skip (cG rfl ky) (.ite (lx g rfl rfl (lw r b x) rfl (.inr ⟨rfl,rfl⟩)) (fun h=>?_) fun h=>?_))
  ·rw [show inB (fun x=>!t x) b (x :: r)=_ from if_pos h]
   refine .sub1 rfl rfl rfl ?_
   rw [sK]
   exact .ret rfl ⟨rfl,rfl⟩
  ·rw [show inB (fun x=>!t x) b (x :: r)=_ from if_neg (ne_true_of_eq_false h)]
   exact .nil (.ret rfl ⟨rfl,rfl⟩)
noncomputable def goF (t:Nat→Bool) (r:List Nat):List Nat→Bool×List Nat×List Nat
 | []=>(false,r,[])
 | x :: b=>if t x=true then (true,r,x :: b) else goF t (x :: r) b
theorem lL (k:Nat) (g:Grp s t) (hb:b.length<900):aA ((GG (k+1)).Φ 15) [.obj 0,s] (sP r b lb bra ket ex) fun v σ=>v = .bool (goF (fun x=>!t x) r b).1∧σ=sP (goF (fun x=>!t x) r b).2.1 (goF (fun x=>!t x) r b).2.2 lb bra ket ex:=by
 refine aw rfl (.whl ?_)
 have loop:∀ (b r:List Nat) (m:Nat),b.length<m→RW (GG k) aO (.cmp .lt (.attr (.loc 0) 1) (.attr (.loc 0) 2)) [.ite (.cmp .notin (.idx (.attr (.loc 0) 0) (.attr (.loc 0) 1)) (.loc 1)) [.ret (.bool true)] [],.augA (.loc 0) 1 .add (.int 1)] m [some (.obj 0),some s] (sP r b lb bra ket ex)
  (bW (fun ρ σ=>RB (GG k) aO [.ret (.bool false)] ρ σ (dN fun v σ=>v = .bool (goF (fun x=>!t x) r b).1∧σ=sP (goF (fun x=>!t x) r b).2.1 (goF (fun x=>!t x) r b).2.2 lb bra ket ex)) (dN fun v σ=>v = .bool (goF (fun x=>!t x) r b).1∧σ=sP (goF (fun x=>!t x) r b).2.1 (goF (fun x=>!t x) r b).2.2 lb bra ket ex)):=by
  intro b
  induction b with
  | nil=>intro r m hm;cases m with
   | zero=>contradiction
   | succ m=>exact .done (cG rfl (by simp)) (.ret rfl ⟨rfl,rfl⟩)
  | cons x b ih=>intro r m hm;cases m with
   | zero=>contradiction
   | succ m =>
    refine .turn (cA rfl (by rw [List.length_cons];omega)) (.ite (lx g rfl rfl (je r b x) rfl (.inr ⟨rfl,rfl⟩)) (fun h=>?_) fun h=>?_)
    ·rw [show goF (fun x=>!t x) r (x :: b)=_ from if_pos h]
     exact .ret rfl ⟨rfl,rfl⟩
    ·rw [show goF (fun x=>!t x) r (x :: b)=_ from if_neg (ne_true_of_eq_false h)]
     refine .nil (.add1 rfl rfl rfl ?_)
     rw [gm]
     exact .nil (ih _ _ (Nat.lt_of_succ_lt_succ hm))
 exact loop b r 1000 (aaf (by assumption) (by decide))
end
theorem eU (n a:Nat):clipAt n (a:Int)=min a n:=by
 unfold clipAt
 rw [if_neg (Int.not_lt.mpr (Int.natCast_nonneg a))]
 rcases Nat.le_total a n with h | h
 ·rw [Int.min_eq_left (Int.ofNat_le.mpr h),Int.max_eq_right (Int.natCast_nonneg a),Nat.min_eq_left h];rfl
 ·rw [Int.min_eq_right (Int.ofNat_le.mpr h),Int.max_eq_right (Int.natCast_nonneg n),Nat.min_eq_right h];rfl
theorem sN (w:List Nat) (a:Nat):cut w (some 0) (some (a:Int))=w.take a:=by
 unfold cut
 show (w.drop (clipAt w.length ((0:Nat):Int))).take (clipAt w.length (a:Int) - clipAt w.length ((0:Nat):Int))=_
 rw [eU,eU,Nat.zero_min,List.drop_zero,Nat.sub_zero]
 rcases Nat.le_total a w.length with h | h
 ·rw [Nat.min_eq_left h]
 ·rw [Nat.min_eq_right h,List.take_of_length_le h,List.take_of_length_le (Nat.le_refl _)]
theorem mF (w:List Nat) (a:Nat):cut w (some (a:Int)) none=w.drop a:=by
 unfold cut
 show (w.drop (clipAt w.length (a:Int))).take (w.length - clipAt w.length (a:Int))=_
 rw [eU]
 rcases Nat.le_total a w.length with h | h
 ·rw [Nat.min_eq_left h];exact List.take_of_length_le (by rw [aal];exact Nat.le_refl _)
 ·rw [Nat.min_eq_right h,List.drop_of_length_le h,List.drop_of_length_le (Nat.le_refl _),List.take_nil]
noncomputable def kz (c:Int) (a b n:Nat):Int:=if c≥b then c+(n - ((b:Int) - a)) else if c>a then a else c
section
variable {k:Nat}{w s:List Nat}{c l lb bra ket:Int}{ex:ah}{r b:List Nat}
theorem sO {G:Sg}{ρ:Rho}{σ:St}{x y:X}{p q:List Nat}(e1:ev G ρ σ x=some (.str p,σ)) (e2:ev G ρ σ y=some (.str q,σ)) (h:p.length+q.length≤big):ev G ρ σ (.bin .add x y)=some (.str (p++q),σ):=by
 show (ev G ρ σ x).bind _=_
 rw [e1];show (ev G ρ σ y).bind _=_
 rw [e2];show (if p.length+q.length≤big then some (V.str (p++q)) else none).map _=_
 rw [if_pos h];rfl
theorem lz {G:Sg}{ρ:Rho}{σ:St}{x:X}{v v':V}(e:ev G ρ σ x=some (v,σ)) (q:v=v'):ev G ρ σ x=some (v',σ):=q▸e
theorem sQ (k a b:Nat) (hw:w.length+s.length≤2000):aA ((GG (k+1)).Φ 23) [.obj 0,.int a,.int b,.str s] (st w c l lb bra ket ex) fun v σ=>σ=st (w.take a++s++w.drop b) (kz c a b s.length) (l+(s.length - ((b:Int) - a))) lb bra ket ex:=by
 have l1:(w.take a).length≤w.length:=by rw [List.length_take];omega
 have l2:(w.drop b).length≤w.length:=by rw [aal];exact Nat.sub_le _ _
 have bg:(big:Nat)=1048576:=rfl
 refine aw rfl (.set rfl (.set0 rfl rfl (sO (sO (lz rfl (congrArg V.str (sN w a))) rfl (by lia)) (lz rfl (congrArg V.str (mF w b))) (by rw [List.length_append];lia)) (.add2 rfl rfl rfl ?_)))
 unfold kz
 by_cases h:c≥b
 ·rw [if_pos h]
  exact .iteT (cA rfl h) (.add1 rfl rfl rfl (.nil (.ret rfl rfl)))
 ·rw [if_neg h]
  refine .iteF (cG rfl h) ?_
  by_cases h2:c>a
  ·rw [if_pos h2]
   exact .iteT (cA rfl h2) (.set1 rfl rfl rfl (.nil (.nil (.ret rfl rfl))))
  ·rw [if_neg h2]
   exact .iteF (cG rfl h2) (.nil (.nil (.ret rfl rfl)))
theorem aA.mono {M:ib}{xs:List V}{σ:St}{P Q:V→St→Prop}(h:aA M xs σ P) (k:∀ v σ,P v σ→Q v σ):aA M xs σ Q:=let ⟨v,σ',e,p⟩:=h;⟨v,σ',e,k _ _ p⟩
theorem RB.call {n m:Nat}{r:List S}{ρ:Rho}{w:List Nat}{c l lb bra ket:Int}{ex:ah}{Q:aP}{xs:List X}{vs:List V}{P:V→St→Prop}(hm:m<30) (hx:cz ex) (h0:bo ρ) (ea:evs (GG k) ρ (st w c l lb bra ket ex) xs=some (vs,st w c l lb bra ket ex)) (g:aA ((GG k).Φ (m+12)) (.obj 0 :: vs) (st w c l lb bra ket ex) P) (h:∀ v σ,P v σ→RB (GG k) n r ρ σ Q):RB (GG k) n (.expr (.meth (.loc 0) (m+12) xs) :: r) ρ (st w c l lb bra ket ex) Q:=by
 obtain ⟨v,σ',e,p⟩:=g
 exact .expr ((pF rfl hm (dJ h0) ea (hx m)).trans e) (h v σ' p)
theorem lA {G:Sg}{n:Nat}{ρ:Rho}{σ:St}{x:X}(e:ev G ρ σ x=some (.bool true,σ)):exS G n (.asrt x) ρ σ=some (.next,ρ,σ):=by
 show (ev G ρ σ x).bind _=_
 rw [e];rfl
theorem eN (k:Nat) {a b:Nat}(hx:cz ex) (hab:a≤b) (hb:b≤w.length) (hw:w.length+s.length≤2000):aA ((GG (k+2)).Φ 24) [.obj 0,.str s] (st w c w.length lb a b ex) fun v σ=>v = .none∧σ=st (w.take a++s++w.drop b) (kz c a b s.length) (w.length+(s.length - ((b:Int) - a))) lb a (a+s.length) ex :=
 aw rfl (.step (lA (cA rfl (Int.natCast_nonneg a))) (.step (lA (cA rfl (Int.ofNat_le.mpr hab))) (.step (lA (cA rfl (Int.ofNat_le.mpr hb))) (.step (lA (cA rfl (Int.le_refl _)))
  (.call (m:=11) (by decide) hx rfl rfl (sQ k a b hw) fun v σ h=>h▸.set5 rfl rfl rfl (.nil ⟨rfl,rfl⟩))))))
end
end Mine
end
section
namespace Mine.Eng
noncomputable abbrev W:=List Nat
noncomputable def ks (s:String):W:=s.toList.map Char.toNat
noncomputable def rk (s:String):W:=(ks s).reverse
noncomputable def vow (c:Nat):Bool:=[97,101,105,111,117,121].contains c
noncomputable def jM (c:Nat):Bool:=[89,97,101,105,111,117,119,120,121].contains c
noncomputable def ae {α:Type} : List (W×α)→W→Option (W×α)
 | [],_=>none
 | e :: l,r=>match ae l r with
  | some f=>if e.1.isPrefixOf r&&decide (f.1.length<e.1.length) then some e else some f
  | none=>if e.1.isPrefixOf r then some e else none
noncomputable def gC {α:Type}(l:List (String×α)):List (W×α):=l.map fun e=>(rk e.1,e.2)
noncomputable def inR (p:Nat) (r:W) (k:Nat):Bool:=decide (p≤r.length - k)
noncomputable def bC (b:W) (q:W):Bool:=match q with | c :: _=>b.contains c | []=>false
noncomputable def sR:List (W×Unit):=gC [("'",()),("'s'",()),("'s",())]
noncomputable def aU (r:W):W:=match ae sR r with
 | some e=>r.drop e.1.length
 | none=>r
noncomputable def t1a:List (W×Nat):=gC [("ied",2),("s",3),("ies",2),("sses",1),("ss",0),("us",0)]
noncomputable def a9 (r:W):W:=match ae t1a r with
 | some (_,1)=>r.drop 2
 | some (_,2)=>if 2≤(r.drop 3).length then r.drop 2 else r.drop 1
 | some (_,3)=>if (r.drop 2).any vow then r.drop 1 else r
 | _=>r
noncomputable def aF (r:W):Bool:=(match r with
 | a :: b :: c :: _=>!jM a&&vow b&&!vow c
 | _=>false)||(match r with
 | [a,b]=>!vow a&&vow b
 | _=>false)||(rk "past").isPrefixOf r
noncomputable def t1b:List (W×Nat):=gC [("ed",2),("eed",1),("ing",3),("edly",2),("eedly",1),("ingly",2)]
noncomputable def jf:List W:=["bb","dd","ff","gg","mm","nn","pp","rr","tt"].map rk
noncomputable def gE (p1:Nat) (r:W):W :=
 if ["at","bl","iz"].any fun s=>(rk s).isPrefixOf r then 101 :: r
 else if jf.any fun s=>s.isPrefixOf r then (match r with
  | [_,_,x]=>if [97,101,111].contains x then r else r.drop 1
  | _=>r.drop 1)
 else if r.length=p1&&aF r then 101 :: r else r
noncomputable def bL (p1 k:Nat) (r:W):W:=if (r.drop k).any vow then gE p1 (r.drop k) else r
noncomputable def aY (p1:Nat) (r:W):W:=match ae t1b r with
 | some (s,1)=>if inR p1 r s.length&&!(["succ","proc","exc"].map rk).contains (r.drop s.length) then 101 :: 101 :: r.drop s.length else r
 | some (s,2)=>bL p1 s.length r
 | some (_,3)=>if (["even","cann","inn","earr","herr","out"].map rk).contains (r.drop 3) then r else (match r.drop 3 with
  | [121,c]=>if vow c then bL p1 3 r else [101,105,c]
  | _=>bL p1 3 r)
 | _=>r
noncomputable def ao (r:W):W:=match r with
 | y :: c :: d :: q=>if (y==121||y==89)&&!vow c then 105 :: c :: d :: q else r
 | _=>r
inductive Act where | to (s:W) | li | ogi
noncomputable def t2:List (W×Act):=gC [("anci",.to (ks "ance")),("enci",.to (ks "ence")),("ogi",.ogi),("li",.li),("bli",.to (ks "ble")),("abli",.to (ks "able")),("alli",.to (ks "al")),("fulli",.to (ks "ful")),("lessli",.to (ks "less")),("ousli",.to (ks "ous")),("entli",.to (ks "ent")),("aliti",.to (ks "al")),("biliti",.to (ks "ble")),("iviti",.to (ks "ive")),("tional",.to (ks "tion")),("ational",.to (ks "ate")),("alism",.to (ks "al")),("ation",.to (ks "ate")),("ization",.to (ks "ize")),("izer",.to (ks "ize")),("ator",.to (ks "ate")),("iveness",.to (ks "ive")),("fulness",.to (ks "ful")),("ousness",.to (ks "ous")),("ogist",.to (ks "og"))]
noncomputable def aS (p1:Nat) (r:W):W:=match ae t2 r with
 | some (s,a)=>if inR p1 r s.length then (match a with
  | .to t=>t.reverse++r.drop s.length
  | .ogi=>if (r.drop 3).head?==some 108 then r.drop 1 else r
  | .li=>if bC (ks "cdeghkmnrt") (r.drop 2) then r.drop 2 else r) else r
 | none=>r
noncomputable def t3:List (W×(Bool×W)):=gC [("icate",(false,ks "ic")),("ative",(true,[])),("alize",(false,ks "al")),("iciti",(false,ks "ic")),("ical",(false,ks "ic")),("tional",(false,ks "tion")),("ational",(false,ks "ate")),("ful",(false,[])),("ness",(false,[]))]
noncomputable def bc (p1 p2:Nat) (r:W):W:=match ae t3 r with
 | some (s,two,t)=>if inR p1 r s.length&&(!two||inR p2 r s.length) then t.reverse++r.drop s.length else r
 | none=>r
noncomputable def t4:List (W×Bool):=gC [("ic",true),("ance",true),("ence",true),("able",true),("ible",true),("ate",true),("ive",true),("ize",true),("iti",true),("al",true),("ism",true),("ion",false),("er",true),("ous",true),("ant",true),("ent",true),("ment",true),("ement",true)]
noncomputable def bp (p2:Nat) (r:W):W:=match ae t4 r with
 | some (s,plain)=>if inR p2 r s.length&&(plain||bC [115,116] (r.drop 3)) then r.drop s.length else r
 | none=>r
noncomputable def bT (p1 p2:Nat) (r:W):W:=match r with
 | 101 :: q=>if inR p2 r 1||(inR p1 r 1&&!aF q) then q else r
 | 108 :: q=>if inR p2 r 1&&q.head?==some 108 then q else r
 | _=>r
noncomputable def mk1 (p:Option Nat) (c:Nat):Nat:=if (c==121&&(match p with | none=>true | some b=>vow b))=true then 89 else c
noncomputable def av:Option Nat→W→W
 | _,[]=>[]
 | p,c :: r=>mk1 p c :: av (some (mk1 p c)) r
noncomputable def ad (t:W):W:=av none t
noncomputable def a8:List W:=["arsen","commun","emerg","gener","inter","later","organ","past","univers"].map ks
noncomputable def aZ (t:W):Nat:=t.length - ((t.dropWhile fun c=>!vow c).dropWhile vow).tail.length
noncomputable def first (t:W):Nat:=match a8.find? fun f=>f.isPrefixOf t with
 | some f=>f.length
 | none=>aZ t
noncomputable def az (t:W):Nat:=first t+aZ (t.drop (first t))
noncomputable def small (t:W):W:=t.map fun c=>if c==89 then 121 else c
noncomputable def aR (p1 p2:Nat) (r:W):W:=bT p1 p2 (bp p2 (bc p1 p2 (aS p1 (ao (aY p1 (a9 (aU r)))))))
noncomputable def aE:List (W×W):=[("early","earli"),("gently","gentl"),("idly","idl"),("only","onli"),("singly","singl"),("skies","sky"),("skis","ski"),("ugly","ugli")].map fun e=>(ks e.1,ks e.2)
noncomputable def kept:List W:=["andes","atlas","bias","cosmos","howe","news","sky"].map ks
noncomputable def aG (t:W):W:=match t with | 39 :: r=>r | _=>t
noncomputable def ag (w:W):W :=
 match aE.lookup w with
 | some t=>t
 | none=>if kept.contains w||decide (w.length<3) then w else
  let t:=aG w
  let m:=ad t
  let s:=(aR (first m) (az m) m.reverse).reverse
  if m=t then s else small s
theorem aa {α:Type} : ∀ {l:List (W×α)}{r:W}{e:W×α},ae l r=some e→e∈l∧e.1 <+: r
 | [],r,e,h=>(by injection h)
 | f :: l,r,e,h=>by
  unfold ae at h
  cases q:ae l r with
  | none =>
   rw [q] at h
   by_cases p:f.1.isPrefixOf r=true
   ·simp only [p,if_true,Option.some.injEq] at h;subst h
    exact ⟨aam,aae.mp p⟩
   ·simp only [p] at h;injection h
  | some g =>
   rw [q] at h
   by_cases p:(f.1.isPrefixOf r&&decide (g.1.length<f.1.length))=true
   ·simp only [p,if_true,Option.some.injEq] at h;subst h
    exact ⟨aam,aae.mp (aac.mp p).1⟩
   ·simp only [p] at h
    obtain rfl:g=e:=by simpa using h
    exact ⟨aag _ (aa q).1,(aa q).2⟩
theorem bF {α:Type} : ∀ {l:List (W×α)}{r:W}{f:W×α},f∈l→f.1 <+: r→∃ e,ae l r=some e∧f.1.length≤e.1.length
 | g :: l,r,f,hf,hp=>by
  unfold ae
  rcases List.mem_cons.mp hf with rfl | hf
  ·have p:f.1.isPrefixOf r=true:=aae.mpr hp
   cases q:ae l r with
   | none=>exact ⟨f,by simp [p],Nat.le_refl _⟩
   | some g =>
    by_cases z:g.1.length<f.1.length
    ·exact ⟨f,by simp [p,z],Nat.le_refl _⟩
    ·exact ⟨g,by simp [z],Nat.le_of_not_lt z⟩
  ·obtain ⟨e,h1,h2⟩:=bF hf hp
   rw [h1]
   by_cases p:(g.1.isPrefixOf r&&decide (e.1.length<g.1.length))=true
   ·refine ⟨g,by simp only [p,if_true],?_⟩
    have:=of_decide_eq_true (aac.mp p).2
    omega
   ·exact ⟨e,by simp only [p];rfl,h2⟩
theorem bl {α:Type}{l:List (W×α)}{r:W}(h:ae l r=none):∀ f∈l,¬ f.1 <+: r:=fun f hf hp=>by
 obtain ⟨e,he,_⟩:=bF hf hp
 rw [h] at he;injection he
noncomputable def fF (r r':W):Prop:=r'=r∨r'.length<r.length
theorem fF.le {r r':W}(h:fF r r'):r'.length≤r.length:=h.elim (fun e=>by rw [e];exact Nat.le_refl _) Nat.le_of_lt
theorem dk {r:W}{k:Nat}(h:0<k) (hr:0<r.length):fF r (r.drop k):=.inr (by rw [aal];omega)
theorem mG {c:Bool}{x r:W}(h:fF r x):fF r (if c=true then x else r):=by
 cases c
 ·exact .inl rfl
 ·exact h
theorem dD {s r:W}(h:s <+: r) (hs:0<s.length):0<r.length:=Nat.lt_of_lt_of_le hs h.length_le
theorem sS:∀ e∈sR,0<e.1.length:=by decide
set_option tactic.hygienic true in
theorem vp (r:W):fF r (aU r):=by
 unfold aU
 split
 ·rename_i e h
  have z:=sS e (aa h).1
  exact dk z (dD (aa h).2 z)
 ·exact .inl rfl
theorem lB:∀ e∈t1a,0<e.1.length:=by decide
set_option tactic.hygienic true in
theorem sT (r:W):fF r (a9 r):=by
 unfold a9
 split
 ·rename_i s h;exact dk (by decide) (dD (aa h).2 (lB _ (aa h).1))
 ·rename_i s h
  have z:=dD (aa h).2 (lB _ (aa h).1)
  split
  ·exact dk (by decide) z
  ·exact dk (by decide) z
 ·rename_i s h
  have z:=dD (aa h).2 (lB _ (aa h).1)
  split
  ·exact dk (by decide) z
  ·exact .inl rfl
 ·exact .inl rfl
theorem pK (p1:Nat) (r:W):(gE p1 r).length≤r.length+1:=by
 unfold gE
 split
 ·exact Nat.le_refl _
 ·split
  ·split
   ·split
    ·exact Nat.le_succ _
    ·rw [aal];exact Nat.le_add_left _ _
   ·rw [aal];omega
  ·split
   ·exact Nat.le_refl _
   ·exact Nat.le_succ _
theorem mH (p1 k:Nat) (r:W) (h2:2≤k) (hk:k≤r.length):fF r (bL p1 k r):=by
 unfold bL
 split
 ·have:=pK p1 (r.drop k)
  rw [aal] at this
  exact .inr (by omega)
 ·exact .inl rfl
theorem em:∀ e∈t1b,2≤e.1.length∧(e.2=1→3≤e.1.length)∧(e.2=3→e.1.length=3):=by decide
set_option tactic.hygienic true in
theorem jg (p1:Nat) (r:W):fF r (aY p1 r):=by
 unfold aY
 split
 ·rename_i s h
  have z:=em _ (aa h).1
  have l:=(aa h).2.length_le
  split
  ·have q:3≤s.length:=z.2.1 rfl
   have l:s.length≤r.length:=l
   exact .inr (by simp only [List.length_cons,aal];omega)
  ·exact .inl rfl
 ·rename_i s h
  exact mH _ _ _ (em _ (aa h).1).1 (aa h).2.length_le
 ·rename_i s h
  have z:=(em _ (aa h).1).2.2 rfl
  have l:=(aa h).2.length_le
  simp only at z l
  split
  ·exact .inl rfl
  ·split
   ·rename_i c q
    split
    ·exact mH _ _ _ (by decide) (by omega)
    ·have:=congrArg List.length q
     simp only [aal,List.length_cons,List.length_nil] at this
     exact .inr (by simp only [List.length_cons,List.length_nil];omega)
   ·exact mH _ _ _ (by decide) (by omega)
 ·exact .inl rfl
theorem iF (r:W):(ao r).length=r.length:=by
 unfold ao
 split
 ·split<;>rfl
 ·rfl
theorem vr:∀ e∈t3,e.2.2.length<e.1.length:=by decide
set_option tactic.hygienic true in
theorem lC (p1 p2:Nat) (r:W):fF r (bc p1 p2 r):=by
 unfold bc
 split
 ·rename_i s two t h
  have z:=vr _ (aa h).1
  have l:=(aa h).2.length_le
  simp only at z l
  split
  ·exact .inr (by simp only [List.length_append,aad,aal];omega)
  ·exact .inl rfl
 ·exact .inl rfl
theorem n9:∀ e∈t4,0<e.1.length:=by decide
set_option tactic.hygienic true in
theorem lD (p2:Nat) (r:W):fF r (bp p2 r):=by
 unfold bp
 split
 ·rename_i s p h
  have z:0<s.length:=n9 _ (aa h).1
  exact mG (dk z (dD (s:=s) (aa h).2 z))
 ·exact .inl rfl
theorem oh (p1 p2:Nat) (r:W):fF r (bT p1 p2 r):=by
 unfold bT
 split
 ·split
  ·exact .inr (Nat.lt_succ_self _)
  ·exact .inl rfl
 ·split
  ·exact .inr (Nat.lt_succ_self _)
  ·exact .inl rfl
 ·exact .inl rfl
noncomputable def Au (r':W):Prop:=∃ a b q,r'=101 :: a :: b :: q∧(a==99&&b==110||a==108&&b==98)=true
noncomputable def GW (e:W×Act):Bool:=decide (2≤e.1.length)&&match e.2 with
 | .to t=>decide (t.length<e.1.length)||(decide (t.length=e.1.length)&&decide (3≤t.length)&&(t.reverse.take 3==[101,99,110]||t.reverse.take 3==[101,108,98]))
 | _=>true
theorem E1:(t2.all GW)=true:=by decide
theorem sU (e:W×Act) (he:e∈t2):2≤e.1.length∧∀ t,e.2 = .to t→t.length<e.1.length∨(t.length=e.1.length∧3≤t.length∧(t.reverse.take 3==[101,99,110]||t.reverse.take 3==[101,108,98])=true):=by
 have z:=aab.mp E1 e he
 obtain ⟨z1,z2⟩:=aac.mp z
 refine ⟨of_decide_eq_true z1,fun t ht=>?_⟩
 rw [ht] at z2
 rcases Bool.or_eq_true_iff.mp z2 with z | z
 ·exact .inl (of_decide_eq_true z)
 ·obtain ⟨z,z3⟩:=aac.mp z
  obtain ⟨z1,z2⟩:=aac.mp z
  exact .inr ⟨of_decide_eq_true z1,of_decide_eq_true z2,z3⟩
set_option tactic.hygienic true in
theorem xb (p1:Nat) (r:W):fF r (aS p1 r)∨((aS p1 r).length=r.length∧Au (aS p1 r)∧inR p1 r 3=true):=by
 unfold aS
 split
 ·rename_i s a h
  have z:=sU _ (aa h).1
  have l:s.length≤r.length:=(aa h).2.length_le
  cases hr:inR p1 r s.length with
  | false=>exact .inl (.inl rfl)
  | true =>
   rw [if_pos rfl]
   cases a with
   | to t =>
    rcases z.2 t rfl with q | ⟨q1,q2,q3⟩
    ·have q:t.length<s.length:=q
     exact .inl (.inr (by rw [List.length_append,aad,aal];exact Nat.lt_of_lt_of_eq (Nat.add_lt_add_right q _) (Nat.add_sub_cancel' l)))
    ·have q1:t.length=s.length:=q1
     refine .inr ⟨by rw [List.length_append,aad,aal,q1];exact Nat.add_sub_cancel' l,?_,?_⟩
     ·have len:3≤t.reverse.length:=by rw [aad];exact q2
      match ht:t.reverse,len with
      | a :: b :: c :: q,_ =>
       rw [ht] at q3
       show Au (t.reverse++r.drop s.length)
       rw [ht]
       refine ⟨b,c,q++r.drop s.length,?_,?_⟩
       ·have:a=101:=by
         rcases Bool.or_eq_true_iff.mp q3 with z | z<;>(have:=eq_of_beq z;simp at this;exact this.1)
        rw [this];rfl
       ·rcases Bool.or_eq_true_iff.mp q3 with z | z<;>(have:=eq_of_beq z;simp at this;simp [this])
     ·exact decide_eq_true (aaf (of_decide_eq_true hr) (Nat.sub_le_sub_left (q1▸q2) _))
   | ogi =>
    have z:2≤s.length:=z.1
    exact .inl (mG (dk (by decide) (by omega)))
   | li =>
    have z:2≤s.length:=z.1
    exact .inl (mG (dk (by decide) (by omega)))
 ·exact .inl (.inl rfl)
theorem xd (p1 p2:Nat) (r r':W) (b:Au r') (l:r'.length=r.length) (h:inR p1 r 3=true):(bT p1 p2 r').length<r'.length:=by
 obtain ⟨a,c,q,rfl,e⟩:=b
 have sv:aF (a :: c :: q)=false:=by
  rcases Bool.or_eq_true_iff.mp e with z | z
  ·obtain ⟨z1,z2⟩:=aac.mp z
   cases eq_of_beq z1;cases eq_of_beq z2
   cases q with
   | nil=>decide
   | cons d q=>show (!jM 99&&vow 110&&!vow d||false||(rk "past").isPrefixOf (99 :: 110 :: d :: q))=false;rfl
  ·obtain ⟨z1,z2⟩:=aac.mp z
   cases eq_of_beq z1;cases eq_of_beq z2
   cases q with
   | nil=>decide
   | cons d q=>show (!jM 108&&vow 98&&!vow d||false||(rk "past").isPrefixOf (108 :: 98 :: d :: q))=false;rfl
 have i1:inR p1 (101 :: a :: c :: q) 1=true:=by
  have:=of_decide_eq_true h
  exact decide_eq_true (aaf this (by rw [← l];exact Nat.sub_le_sub_left (by decide) _))
 show (if (inR p2 (101 :: a :: c :: q) 1||(inR p1 (101 :: a :: c :: q) 1&&!aF (a :: c :: q)))=true then a :: c :: q else _).length<_
 rw [i1,sv,if_pos (by simp)]
 exact Nat.lt_succ_self _
theorem gM (p1 p2:Nat) (r:W):(aR p1 p2 r).length<r.length∨(aU r=r∧a9 r=r∧aY p1 r=r∧aS p1 (ao r)=ao r∧bc p1 p2 (ao r)=ao r∧bp p2 (ao r)=ao r∧bT p1 p2 (ao r)=ao r):=by
 unfold aR
 have n5:∀ x,(bT p1 p2 x).length≤x.length:=fun x=>(oh p1 p2 x).le
 have n4:∀ x,(bp p2 x).length≤x.length:=fun x=>(lD p2 x).le
 have n3:∀ x,(bc p1 p2 x).length≤x.length:=fun x=>(lC p1 p2 x).le
 have n2:∀ x,(aS p1 x).length≤x.length:=fun x=>(xb p1 x).elim fF.le fun h=>Nat.le_of_eq h.1
 have tl:∀ x,(bT p1 p2 (bp p2 (bc p1 p2 (aS p1 (ao x))))).length≤x.length:=fun x=>by
  have:=n5 (bp p2 (bc p1 p2 (aS p1 (ao x))));have:=n4 (bc p1 p2 (aS p1 (ao x)));have:=n3 (aS p1 (ao x));have:=n2 (ao x);have:=iF x
  lia
 rcases vp r with e0 | e0
 ·rw [e0]
  rcases sT r with e1 | e1
  ·rw [e1]
   rcases jg p1 r with e2 | e2
   ·rw [e2]
    have lc:=iF r
    rcases xb p1 (ao r) with (e3 | e3) | ⟨e3,b,i3⟩
    ·rw [e3]
     rcases lC p1 p2 (ao r) with e4 | e4
     ·rw [e4]
      rcases lD p2 (ao r) with e5 | e5
      ·rw [e5]
       rcases oh p1 p2 (ao r) with e6 | e6
       ·exact .inr ⟨rfl,rfl,rfl,rfl,rfl,rfl,e6⟩
       ·exact .inl (by omega)
      ·have:=n5 (bp p2 (ao r));exact .inl (by omega)
     ·have:=n5 (bp p2 (bc p1 p2 (ao r)));have:=n4 (bc p1 p2 (ao r));exact .inl (by omega)
    ·have:=n5 (bp p2 (bc p1 p2 (aS p1 (ao r))));have:=n4 (bc p1 p2 (aS p1 (ao r)));have:=n3 (aS p1 (ao r))
     exact .inl (by omega)
    ·left
     rcases lC p1 p2 (aS p1 (ao r)) with e4 | e4
     ·rw [e4]
      rcases lD p2 (aS p1 (ao r)) with e5 | e5
      ·rw [e5]
       have:=xd p1 p2 (ao r) (aS p1 (ao r)) b e3 i3
       omega
      ·have:=n5 (bp p2 (aS p1 (ao r)));omega
     ·have:=n5 (bp p2 (bc p1 p2 (aS p1 (ao r))));have:=n4 (bc p1 p2 (aS p1 (ao r)));omega
   ·have:=tl (aY p1 r);exact .inl (Nat.lt_of_le_of_lt (by assumption) (by assumption))
  ·have:=tl (aY p1 (a9 r));have:=(jg p1 (a9 r)).le;exact .inl (by omega)
 ·have:=tl (aY p1 (a9 (aU r)));have:=(jg p1 (a9 (aU r))).le;have:=(sT (aU r)).le;exact .inl (by omega)
end Mine.Eng
end
section
open Mine.Eng (ae aa bF bl)
namespace Mine
noncomputable def ltE:List Nat→List Nat→Bool
 | _,[]=>false
 | [],_ :: _=>true
 | x :: r,y :: e=>if Nat.beq x y then ltE r e else Nat.blt x y
noncomputable def lcp:List Nat→List Nat→Nat
 | x :: r,y :: e=>if Nat.beq x y then lcp r e+1 else 0
 | _,_=>0
theorem mI {x y:Nat}{C:Prop}(k1:x=y→Nat.beq x y=true→C) (k2:x≠y→Nat.beq x y=false→C):C:=by
 cases q:Nat.beq x y with
 | true=>exact k1 (Nat.eq_of_beq_eq_true q) q
 | false=>exact k2 (Nat.ne_of_beq_eq_false q) q
theorem ip {x y:Nat}{r e:List Nat} : ltE (x :: r) (y :: e)=if Nat.beq x y then ltE r e else Nat.blt x y:=rfl
theorem jh:∀ {e r:List Nat},e <+: r→ltE r e=false
 | [],r,_=>by cases r<;>rfl
 | y :: e,[],h=>absurd h (by simp)
 | y :: e,x :: r,h=>by
  obtain ⟨rfl,h'⟩:=List.cons_prefix_cons.mp h
  rw [ip,Nat.beq_refl,if_pos rfl];exact jh h'
theorem ji:∀ {a b:List Nat},ltE a b=true→ltE b a=false
 | [],[],h=>by injection h
 | [],_ :: _,_=>rfl
 | _ :: _,[],h=>by injection h
 | x :: a,y :: b,h=>by
  rw [ip] at h ⊢
  refine mI (x:=x) (y:=y) (fun e q=>?_) fun n q=>?_
  ·subst e;rw [q,if_pos rfl] at h ⊢;exact ji h
  ·rw [q,if_neg aaj] at h
   have l:=aan h
   have q':Nat.beq y x=false:=by cases z:Nat.beq y x with
    | false=>rfl
    | true=>exact absurd (Nat.eq_of_beq_eq_true z).symm n
   rw [q',if_neg aaj]
   cases z:Nat.blt y x with
   | false=>rfl
   | true=>have:=aan z;omega
theorem lE:∀ {p a b c:List Nat},p <+: a→p <+: c→ltE b a=false→ltE c b=false→p <+: b
 | [],_,b,_,_,_,_,_=>List.nil_prefix
 | x :: p,[],_,_,h,_,_,_=>absurd h (by simp)
 | x :: p,_,_,[],_,h,_,_=>absurd h (by simp)
 | x :: p,y :: a,[],_ :: _,_,_,h,_=>by injection h
 | x :: p,y :: a,z :: b,u :: c,h1,h2,h3,h4=>by
  obtain ⟨rfl,g1⟩:=List.cons_prefix_cons.mp h1
  obtain ⟨rfl,g2⟩:=List.cons_prefix_cons.mp h2
  rw [ip] at h3 h4
  refine mI (x:=z) (y:=x) (fun e q=>?_) fun n q=>?_
  ·subst e
   rw [q,if_pos rfl] at h3
   rw [Nat.beq_refl,if_pos rfl] at h4
   exact List.cons_prefix_cons.mpr ⟨rfl,lE g1 g2 h3 h4⟩
  ·exfalso
   rw [q,if_neg aaj] at h3
   have q':Nat.beq x z=false:=by cases w:Nat.beq x z with
    | false=>rfl
    | true=>exact absurd (Nat.eq_of_beq_eq_true w).symm n
   rw [q',if_neg aaj] at h4
   have l1:¬ z<x:=fun l=>by rw [show Nat.blt z x=true from Nat.ble_eq_true_of_le l] at h3;injection h3
   have l2:¬ x<z:=fun l=>by rw [show Nat.blt x z=true from Nat.ble_eq_true_of_le l] at h4;injection h4
   lia
theorem jN:∀ (r e:List Nat),r.take (lcp r e) <+: e
 | [],e=>by cases e<;>exact List.nil_prefix
 | x :: r,[]=>List.nil_prefix
 | x :: r,y :: e=>by
  show List.take (if Nat.beq x y then lcp r e+1 else 0) (x :: r) <+: y :: e
  refine mI (x:=x) (y:=y) (fun h q=>?_) fun n q=>?_
  ·subst h;rw [q,if_pos rfl];exact List.cons_prefix_cons.mpr ⟨rfl,jN r e⟩
  ·rw [q];exact List.nil_prefix
theorem kA:∀ (r e:List Nat),lcp r e≤r.length∧lcp r e≤e.length
 | [],e=>by cases e<;>exact ⟨Nat.zero_le _,Nat.zero_le _⟩
 | x :: r,[]=>⟨Nat.zero_le _,Nat.zero_le _⟩
 | x :: r,y :: e=>by
  show (if Nat.beq x y then lcp r e+1 else 0)≤_∧(if Nat.beq x y then lcp r e+1 else 0)≤_
  have:=kA r e
  split
  ·exact ⟨Nat.succ_le_succ this.1,Nat.succ_le_succ this.2⟩
  ·exact ⟨Nat.zero_le _,Nat.zero_le _⟩
theorem sV:∀ {p r e:List Nat},p <+: r→p <+: e→p.length≤lcp r e
 | [],_,_,_,_=>Nat.zero_le _
 | x :: p,[],_,h,_=>absurd h (by simp)
 | x :: p,_ :: _,[],_,h=>absurd h (by simp)
 | x :: p,y :: r,z :: e,h1,h2=>by
  obtain ⟨rfl,g1⟩:=List.cons_prefix_cons.mp h1
  obtain ⟨rfl,g2⟩:=List.cons_prefix_cons.mp h2
  show p.length+1≤(if Nat.beq x x then lcp r e+1 else 0)
  rw [Nat.beq_refl,if_pos rfl]
  exact Nat.succ_le_succ (sV g1 g2)
noncomputable abbrev du:=List (List Nat×Int×Int)
noncomputable def fV:du→Bool
 | []=>true
 | e :: l=>(l.all fun f=>ltE e.1 f.1)&&fV l
noncomputable def jj (a b:List Nat):Bool:=a.isPrefixOf b&&Nat.blt a.length b.length
noncomputable def oq (l:du) (e:List Nat×Int×Int):Bool:=if e.2.1<0 then l.all fun f=>!jj f.1 e.1
 else match l[e.2.1.toNat]? with
  | some g=>jj g.1 e.1&&l.all fun f=>!jj f.1 e.1||Nat.ble f.1.length g.1.length
  | none=>false
noncomputable def jk (l:du):Bool:=fV l&&l.all (oq l)&&(l.head?.all fun e=>e.2.1==-1)&&Nat.ble 2 l.length
theorem dv:∀ {l:du}{a b:Nat}{e f:List Nat×Int×Int},fV l=true→a<b→l[a]? = some e→l[b]? = some f→ltE e.1 f.1=true
 | [],_,_,_,_,_,_,h,_=>by injection h
 | x :: l,0,b+1,e,f,s,_,h1,h2=>by
  obtain rfl:=aaa h1
  exact aab.mp (aac.mp s).1 f (aah h2)
 | x :: l,a+1,b+1,e,f,s,h,h1,h2=>dv (l:=l) (aac.mp s).2 (Nat.lt_of_succ_lt_succ h) h1 h2
 | x :: l,_,0,_,_,_,h,_,_=>absurd h (Nat.not_lt_zero _)
noncomputable def bI (e:List Nat×Int×Int):List Nat×Int:=(e.1,e.2.2)
structure Fnd (l:du) (r:List Nat) (i ci:Nat):Prop where
 at_:∃ e,l[i]? = some e∧((ltE r e.1=false∧ci=lcp r e.1∧∀ b f,i<b→l[b]? = some f→ltE r f.1=true)∨(i=0∧ci=0∧ltE r e.1=true))
theorem Fnd.pre {l:du}{r:List Nat}{i ci:Nat}(s:fV l=true) (F:Fnd l r i ci) {e:List Nat×Int×Int}(he:l[i]? = some e) {f:List Nat×Int×Int}(hf:f∈l) (p:f.1 <+: r):f.1 <+: e.1:=by
 obtain ⟨e',he',F⟩:=F.at_
 obtain rfl:=aaa (he.symm.trans he')
 obtain ⟨b,hb⟩:=List.getElem?_of_mem hf
 have np:=jh p
 rcases F with ⟨h1,h2,h3⟩ | ⟨rfl,rfl,h1⟩
 ·rcases Nat.lt_trichotomy b i with q | q | q
  ·exact lE (List.prefix_refl _) p (ji (dv s q hb he)) h1
  ·subst q;obtain rfl:=aaa (he.symm.trans hb);exact List.prefix_refl _
  ·rw [h3 b f q hb] at np;injection np
 ·exfalso
  rcases Nat.eq_zero_or_pos b with rfl | q
  ·obtain rfl:=aaa (he.symm.trans hb);rw [np] at h1;injection h1
  ·have:=lE (p:=f.1) (a:=r) (b:=e.1) (c:=f.1) p (List.prefix_refl _) (ji h1) (ji (dv s q he hb))
   have z:=dv s q he hb
   rw [jh this] at z;injection z
noncomputable def iq (l:du) (ci:Nat):Nat→Nat→Option (List Nat×Int)
 | 0,_=>none
 | n+1,i=>match l[i]? with
  | some e=>if e.1.length≤ci then some (bI e) else if e.2.1<0 then none else iq l ci n e.2.1.toNat
  | none=>none
theorem BA:∀ {l:du}{e f:List Nat×Int×Int},fV l=true→e∈l→f∈l→e.1=f.1→e=f
 | x :: l,e,f,s,he,hf,q=>by
  obtain ⟨s1,s2⟩:=aac.mp s
  have irr:∀ g∈l,¬ x.1=g.1:=fun g hg z=>by
   have:=aab.mp s1 g hg
   rw [z,jh (List.prefix_refl _)] at this;injection this
  rcases List.mem_cons.mp he with e1 | he'<;>rcases List.mem_cons.mp hf with f1 | hf'
  ·rw [e1,f1]
  ·exact absurd (e1▸q) (irr f hf')
  ·exact absurd (f1▸q.symm) (irr e he')
  ·exact BA s2 he' hf' q
theorem CQ {l:du}{r:List Nat}{e:List Nat×Int×Int}(s:fV l=true) (he:e∈l) (p:e.1 <+: r) (m:∀ f∈l,f.1 <+: r→f.1 <+: e.1):ae (l.map bI) r=some (bI e):=by
 obtain ⟨g,h1,h2⟩:=bF (f:=bI e) (List.mem_map_of_mem he) p
 obtain ⟨h3,h4⟩:=aa h1
 obtain ⟨f,hf,rfl⟩:=List.mem_map.mp h3
 have:=m f hf h4
 have q:f.1=e.1:=this.eq_of_length (Nat.le_antisymm this.length_le h2)
 rw [h1,BA s hf he q]
theorem ot {l:du}{r e0:List Nat}{ci:Nat}(ok:jk l=true) (hc:∀ p,p <+: e0→(p <+: r↔p.length≤ci)):∀ (n i:Nat) (e:List Nat×Int×Int),l[i]? = some e→e.1.length<n→e.1 <+: e0→(∀ f∈l,f.1 <+: r→f.1 <+: e.1)→iq l ci n i=ae (l.map bI) r
 | 0,_,_,_,h,_,_=>absurd h (Nat.not_lt_zero _)
 | n+1,i,e,he,hn,p0,m=>by
  obtain ⟨ok3,ok4⟩:=aac.mp (aac.mp ok).1
  obtain ⟨s,lk⟩:=aac.mp ok3
  have me:=aah he
  unfold iq
  rw [he]
  dsimp only
  by_cases q:e.1.length≤ci
  ·rw [if_pos q]
   exact (CQ s me ((hc e.1 p0).mpr q) m).symm
  ·rw [if_neg q]
   have lk:=aab.mp lk e me
   unfold oq at lk
   have proper:∀ f∈l,f.1 <+: r→jj f.1 e.1=true:=fun f hf hp=>by
    have h1:=m f hf hp
    have h2:=(hc f.1 (h1.trans p0)).mp hp
    exact aac.mpr ⟨aae.mpr h1,Nat.ble_eq_true_of_le (by lia)⟩
   by_cases q2:e.2.1<0
   ·rw [if_pos q2] at lk ⊢
    cases hb:ae (l.map bI) r with
    | none=>rfl
    | some g =>
     obtain ⟨h3,h4⟩:=aa hb
     obtain ⟨f,hf,rfl⟩:=List.mem_map.mp h3
     have:=aab.mp lk f hf
     rw [proper f hf h4] at this;injection this
   ·rw [if_neg q2] at lk ⊢
    cases hg:l[e.2.1.toNat]? with
    | none=>rw [hg] at lk;injection lk
    | some g =>
     rw [hg] at lk
     obtain ⟨k1,k2⟩:=aac.mp lk
     obtain ⟨k3,k4⟩:=aac.mp k1
     have pg:=aae.mp k3
     have lg:g.1.length<e.1.length:=aan k4
     refine ot ok hc n _ g hg (by lia) (pg.trans p0) fun f hf hp=>?_
     have:=aab.mp k2 f hf
     rw [proper f hf hp,Bool.not_true,Bool.false_or] at this
     exact List.prefix_of_prefix_length_le (m f hf hp) pg (aan this)
theorem Fnd.chain {l:du}{r:List Nat}{i ci n:Nat}(ok:jk l=true) (F:Fnd l r i ci) (hn:∀ e∈l,e.1.length<n):iq l ci n i=ae (l.map bI) r:=by
 have s:=(aac.mp (aac.mp (aac.mp ok).1).1).1
 obtain ⟨e,he,z⟩:=F.at_
 have me:=aah he
 rcases z with ⟨h1,rfl,_⟩ | ⟨rfl,rfl,h1⟩
 ·refine ot (e0:=e.1) ok (fun p hp=>?_) n i e he (hn e me) (List.prefix_refl _) fun f hf p=>F.pre s he hf p
  constructor
  ·exact fun h=>sV h hp
  ·intro h
   exact (List.prefix_of_prefix_length_le hp (jN r e.1) (by rw [List.length_take];have:=(kA r e.1).1;lia)).trans (List.take_prefix _ _)
 ·have sub:e.2.1 = -1:=by
   have:=(aac.mp (aac.mp ok).1).2
   rw [List.head?_eq_getElem?,he] at this
   exact eq_of_beq this
  have lk:=aab.mp (aac.mp (aac.mp (aac.mp ok).1).1).2 e me
  unfold oq at lk
  rw [if_pos (by rw [sub];decide)] at lk
  have pos:¬ e.1.length≤0:=fun q=>by rw [List.length_eq_zero_iff.mp (Nat.le_zero.mp q)] at h1;cases r<;>injection h1
  obtain ⟨m,rfl⟩:∃ m,n=m+1:=⟨n - 1,by have:=hn e me;lia⟩
  unfold iq
  rw [he]
  dsimp only
  rw [if_neg pos,if_pos (by rw [sub];decide)]
  cases hb:ae (l.map bI) r with
  | none=>rfl
  | some g =>
   obtain ⟨h3,h4⟩:=aa hb
   obtain ⟨f,hf,rfl⟩:=List.mem_map.mp h3
   have h5:=F.pre s he hf h4
   have:=aab.mp lk f hf
   have lt:f.1.length<e.1.length:=by
    rcases Nat.lt_or_ge f.1.length e.1.length with q | q
    ·exact q
    ·have h4:f.1 <+: r:=h4
     rw [h5.eq_of_length_le q] at h4
     rw [jh h4] at h1;injection h1
   rw [show jj f.1 e.1=true from aac.mpr ⟨aae.mpr h5,Nat.ble_eq_true_of_le lt⟩] at this
   injection this
end Mine
end
section
open PySem PySem.W PyProof.Rows
namespace Mine
noncomputable def rh (tv:V) (c L:Int) (i j ci cj:Nat) (fk:Bool) (kk d m w i2:Option V):Rho:=[some (.obj 0),some tv,some (.int i),some (.int j),some (.int c),some (.int L),some (.int ci),some (.int cj),some (.bool fk),kk,d,m,w,i2]
noncomputable def xf (tst ix:X):List S:=[.ite tst [.set 10 (.neg (.int 1)),.brk] [],.set 10 (.bin .sub (.bi .ord [.idx (.attr (.loc 0) 0) ix]) (.bi .ord [.idx (.attr (.loc 12) 9) (.loc 13)])),.ite (.cmp .ne (.loc 10) (.int 0)) [.brk] [],.aug 11 .add (.int 1)]
noncomputable def At (a:Addr) (tbl:List Row):Prop:=∀ (i:Nat) (e:Row),tbl[i]? = some e→roA tbs (a+1+3*i)=some (iV e)
section
variable {k:Nat}{σ:St}{tv:V}{c L:Int}{i j ci cj:Nat}{fk:Bool}{kk d m w i2:Option V}{tst ix:X}{r:List Nat}{fuel':Nat}
structure Av (G:Sg) (σ:St) (tv:V) (c L:Int) (tst ix:X) (r:List Nat):Prop where
 tst:∀ (i j ci cj:Nat) (fk:Bool) (kk d w i2:Option V) (m:Nat),m≤r.length→ev G (rh tv c L i j ci cj fk kk d (some (.int m)) w i2) σ tst=some (.bool (decide (m=r.length)),σ)
 ix:∀ (i j ci cj:Nat) (fk:Bool) (kk d w i2:Option V) (m x:Nat),r[m]? = some x→ev G (rh tv c L i j ci cj fk kk d (some (.int m)) w i2) σ (.idx (.attr (.loc 0) 0) ix)=some (.str [x],σ)
theorem gp {G:Sg}{ρ:Rho}{x:X}{a:Addr}{e:Row}{n:Nat}{v:V}(hP:G.P=P2) (h:ev G ρ σ x=some (.g (.ref a),σ)) (ro:roA tbs a=some (iV e)) (hn:n=9∨n=10∨n=11) (hv:co (iV e) n=some v):ev G ρ σ (.attr x n)=some (v,σ):=by
 show (ev G ρ σ x).bind _=_
 rw [h]
 show (cL G.P σ (.g (.ref a)) n).map _=_
 have:cL G.P σ (.g (.ref a)) n=some v:=by
  rw [hP]
  show (if P2.ats.contains n=true then ((P2.ro a).bind fun fs=>co fs n) else none)=_
  rw [if_pos (by rcases hn with rfl | rfl | rfl<;>decide)]
  show ((roA tbs a).bind fun fs=>co fs n)=_
  rw [ro];exact hv
 rw [this];rfl
theorem gN {G:Sg}{ρ:Rho}{σ σ':St}{x:X}{p q:Bool}(e:ev G ρ σ x=some (.bool p,σ')) (h:p=q):ev G ρ σ x=some (.bool q,σ'):=h▸e
theorem CR {G:Sg}{ρ:Rho}{a b:X}{x y:Nat}(h1:ev G ρ σ a=some (.str [x],σ)) (h2:ev G ρ σ b=some (.str [y],σ)):ev G ρ σ (.bin .sub (.bi .ord [a]) (.bi .ord [b]))=some (.int ((x:Int) - y),σ):=by
 have o:∀ {a:X}{x:Nat},ev G ρ σ a=some (.str [x],σ)→ev G ρ σ (.bi .ord [a])=some (.int x,σ):=fun {a x} h=>by
  show ((ev G ρ σ a).bind fun p=>some ([p.1],p.2)).bind _=_
  rw [h];rfl
 show (ev G ρ σ (.bi .ord [a])).bind _=_
 rw [o h1];show (ev G ρ σ (.bi .ord [b])).bind _=_
 rw [o h2];rfl
theorem pL:∀ (p r e:List Nat),ltE (p++r) (p++e)=ltE r e∧lcp (p++r) (p++e)=p.length+lcp r e
 | [],r,e=>⟨rfl,(Nat.zero_add _).symm⟩
 | x :: p,r,e=>by
  obtain ⟨h1,h2⟩:=pL p r e
  constructor
  ·show (if Nat.beq x x then ltE (p++r) (p++e) else _)=_
   rw [Nat.beq_refl,if_pos rfl];exact h1
  ·show (if Nat.beq x x then lcp (p++r) (p++e)+1 else 0)=_
   rw [Nat.beq_refl,if_pos rfl,h2,List.length_cons];exact Nat.add_right_comm _ _ _
theorem BC {G:Sg}(hP:G.P=P2) {a:Addr}{e:Row}{key:List Nat}{pos:Nat→Int}(T:Av G σ tv c L tst ix r) (ro:roA tbs a=some (iV e)) (hk:∀ (q x:Nat),key[q]? = some x→eR (.str e.1) (.int (pos q))=some (.str [x])) {n:Nat}{Q:aP} :
 ∀ (k' p r':List Nat) (i2:Option V),r=p++r'→key=p++k'→(∀ (d:Int) (i2:Option V),(d<0↔ltE r key=true)→Q .next (rh tv c L i j ci cj fk kk (some (.int d)) (some (.int (lcp r key:Nat))) (some (.g (.ref a))) i2) σ) →
  RF G n 13 (xf tst ix) ((List.range' p.length k'.length).map fun q=>V.int (pos q)) (rh tv c L i j ci cj fk kk (some (.int 0)) (some (.int (p.length:Nat))) (some (.g (.ref a))) i2) σ Q
 | [],p,r',i2,hr,hq,h=>by
  obtain ⟨h1,h2⟩:=pL p r' []
  rw [← hr,← hq] at h1 h2
  have z1:ltE r' []=false:=by cases r'<;>rfl
  have z2:lcp r' []=0:=by cases r'<;>rfl
  have:=h 0 i2 (by rw [h1,z1];simp)
  rw [h2,z2,Nat.add_zero] at this
  exact .nil this
 | y :: k',p,r',i2,hr,hq,h=>by
  obtain ⟨h1,h2⟩:=pL p r' (y :: k')
  rw [← hr,← hq] at h1 h2
  have ey:key[p.length]? = some y:=by rw [hq,List.getElem?_append_right (Nat.le_refl _)];simp
  cases r' with
  | nil =>
   have hl:p.length=r.length:=by rw [hr,List.append_nil]
   refine .turn (.iteT (cA (T.tst _ _ _ _ _ _ _ _ _ p.length (Nat.le_of_eq hl)) hl) (.set rfl (.brk ?_)))
   have:=h (-1) (some (.int (pos p.length))) (by rw [h1];simp [ltE])
   rw [h2] at this
   exact this
  | cons x r' =>
   have ex:r[p.length]? = some x:=by rw [hr,List.getElem?_append_right (Nat.le_refl _)];simp
   have hl:¬ p.length=r.length:=by rw [hr,List.length_append,List.length_cons];lia
   refine .turn (.skip (cG (T.tst _ _ _ _ _ _ _ _ _ p.length (by rw [hr,List.length_append];exact Nat.le_add_right _ _)) hl) ?_)
   have e2:ev G (rh tv c L i j ci cj fk kk (some (.int 0)) (some (.int (p.length:Nat))) (some (.g (.ref a))) (some (.int (pos p.length)))) σ (.idx (.attr (.loc 12) 9) (.loc 13))=some (.str [y],σ):=by
    show (ev G _ σ (.attr (.loc 12) 9)).bind _=_
    rw [gp hP rfl ro (.inl rfl) rfl]
    show (eR (.str e.1) (.int (pos p.length))).map _=_
    rw [hk _ _ ey];rfl
   refine .set (CR (T.ix _ _ _ _ _ _ _ _ _ p.length x ex) e2) ?_
   refine mI (x:=x) (y:=y) (fun q qb=>?_) fun q qb=>?_
   ·subst q
    refine .skip (gN (p:=!((x:Int) - x==0)) rfl (by rw [Int.sub_self];rfl)) (.step rfl (.nil ?_))
    have e3:((p.length:Nat):Int)+1=((p++[x]).length:Nat):=by simp
    have e4:p.length+1=(p++[x]).length:=by simp
    have:=BC (n:=n) hP T ro hk k' (p++[x]) r' (some (.int (pos p.length))) (by rw [hr,aap];rfl) (by rw [hq,aap];rfl) h
    show RF G n 13 (xf tst ix) ((List.range' (p.length+1) k'.length).map _) (rh tv c L i j ci cj fk kk (some (.int ((x:Int) - x))) (some (.int ((p.length:Int)+1))) (some (.g (.ref a))) (some (.int (pos p.length)))) σ Q
    rw [e3,e4,Int.sub_self]
    exact this
   ·have ne:((x:Int) - y==0)=false:=beq_eq_false_iff_ne.mpr (by lia)
    refine .iteT (gN (p:=!((x:Int) - y==0)) rfl (by rw [ne];rfl)) (.brk ?_)
    have:=h ((x:Int) - y) (some (.int (pos p.length))) (by
     rw [h1,ip,qb,if_neg aaj]
     constructor
     ·exact fun z=>Nat.ble_eq_true_of_le (by lia)
     ·exact fun z=>by have:=aan z;omega)
    rw [h2,show lcp (x :: r') (y :: k')=0 from if_neg (by rw [qb];exact aaj)] at this
    exact this
theorem yD:∀ {a b c:List Nat},ltE a b=true→ltE b c=true→ltE a c=true
 | a,[],c,h,_=>by rw [show ltE a []=false by cases a<;>rfl] at h;injection h
 | a,b :: l,[],_,h=>by injection h
 | [],_ :: _,_ :: _,_,_=>rfl
 | x :: a,y :: b,z :: c,h1,h2=>by
  rw [ip] at h1 h2 ⊢
  refine mI (x:=x) (y:=y) (fun e q=>?_) fun n q=>?_
  ·subst e;rw [q,if_pos rfl] at h1
   refine mI (x:=x) (y:=z) (fun e q=>?_) fun n q=>?_
   ·rw [q,if_pos rfl] at h2 ⊢;exact yD h1 h2
   ·rw [q,if_neg aaj] at h2 ⊢;exact h2
  ·rw [q,if_neg aaj] at h1
   have l1:=aan h1
   have l:x<z:=by
    refine mI (x:=y) (y:=z) (fun e q=>?_) fun n q=>?_
    ·omega
    ·rw [q,if_neg aaj] at h2;have:=aan h2;omega
   have q':Nat.beq x z=false:=by cases w:Nat.beq x z with
    | false=>rfl
    | true=>have:=Nat.eq_of_beq_eq_true w;lia
   rw [q',if_neg aaj];exact Nat.ble_eq_true_of_le l
noncomputable def mu (b:Bool):Nat:=match b with | true=>0 | false=>1
theorem E2 {i j q:Nat}(hq:q=i+(j - i) / 2) (h:i<j):q<j:=hq▸Nat.lt_of_lt_of_eq (Nat.add_lt_add_left (Nat.div_lt_self (Nat.sub_pos_of_lt h) (by decide)) i) (Nat.add_sub_cancel' (Nat.le_of_lt h))
theorem kB {i j q:Nat}(hq:q=i+(j - i) / 2) (h:i+2≤j):i<q:=hq▸Nat.lt_add_of_pos_right (Nat.div_pos (Nat.le_sub_of_add_le' h) (by decide))
theorem CS {i j q:Nat}(hq:q=i+(j - i) / 2) (h:i<j):(i:Int)+((j:Int) - i).fdiv (2 ^ (1:Int).toNat)=(q:Int):=by
 subst hq
 show (i:Int)+((j:Int) - i).fdiv 2=_
 rw [Int.fdiv_eq_ediv_of_nonneg _ (by decide),← Int.ofNat_sub (Nat.le_of_lt h)];rfl
theorem CT (a b:Nat):((Min.min (a:Int) (b:Int)):Int)=(Nat.min a b:Nat):=by
 show Min.min (a:Int) (b:Int)=((Min.min a b:Nat):Int)
 omega
theorem gap {i j:Nat} : (j:Int) - i≤1↔j≤i+1:=⟨fun h=>Int.ofNat_le.mp (Int.le_add_of_sub_left_le h),fun h=>Int.sub_left_le_of_le_add (Int.ofNat_le.mpr h)⟩
theorem yE {i j i' j' m z:Nat}(hz:j - i+m<z+1) (h:j' - i'<j - i):j' - i'+m<z:=Nat.lt_of_lt_of_le (Nat.add_lt_add_right h m) (Nat.le_of_lt_succ hz)
theorem E3 {n z:Nat}{b:Bool}(hz:n+mu b<z+1) (hb:b=false):n≤z:=by subst hb;exact Nat.le_of_lt (Nat.lt_of_succ_lt_succ hz)
theorem E4 {q:Nat}(h:q≤0+1) (n:q≠0):q=1:=by lia
noncomputable def ou (tst ix rng:X):List S:=[.set 9 (.bin .add (.loc 2) (.bin .shr (.bin .sub (.loc 3) (.loc 2)) (.int 1))),.set 10 (.int 0),.set 11 (.bi .min2 [.loc 6,.loc 7]),.set 12 (.idx (.loc 1) (.loc 9)),.for1 13 rng (xf tst ix),
 .ite (.cmp .lt (.loc 10) (.int 0)) [.set 3 (.loc 9),.set 7 (.loc 11)] [.set 2 (.loc 9),.set 6 (.loc 11)],
 .ite (.cmp .le (.bin .sub (.loc 3) (.loc 2)) (.int 1)) [.ite (.cmp .gt (.loc 2) (.int 0)) [.brk] [],.ite (.cmp .eq (.loc 3) (.loc 2)) [.brk] [],.ite (.loc 8) [.brk] [],.set 8 (.bool true)] []]
theorem eV {α:Type}{l:List α}{k:Nat}{a:α}(e:l[k]? = some a):k<l.length:=by
 rcases Nat.lt_or_ge k l.length with q | q
 ·exact q
 ·rw [List.getElem?_eq_none q] at e;injection e
theorem dK {G:Sg}{ρ:Rho}{σ σ':St}{x:X}{i i':Int}(q:i=i') (e:ev G ρ σ x=some (.int i,σ')):ev G ρ σ x=some (.int i',σ'):=q▸e
theorem bJ {G:Sg}{ρ:Rho}{σ:St}{a i:X}{va vi v:V}(h:eR va vi=some v) (ea:ev G ρ σ a=some (va,σ)) (ei:ev G ρ σ i=some (vi,σ)):ev G ρ σ (.idx a i)=some (v,σ):=by
 show (ev G ρ σ a).bind _=_
 rw [ea];show (ev G ρ σ i).bind _=_
 rw [ei];show (eR va vi).map _=_
 rw [h];rfl
theorem mJ:∀ {l:List Row}{a:Addr}{i:Nat}{e:Row},l[i]? = some e→(aQ a l)[i]? = some (.g (.ref (a+1+3*i)))
 | _ :: l,a,0,_,_=>rfl
 | _ :: l,a,i+1,e,h=>by
  have:=mJ (l:=l) (a:=a+3) (i:=i) h
  show (aQ (a+3) l)[i]? = _
  rw [this]
  have z:∀ a i:Nat,a+3+1+3*i=a+1+3*(i+1):=fun a i=>by lia
  exact congrArg (fun a=>some (V.g (.ref a))) (z a i)
theorem gW {l:List V}{i:Nat}{x:V}(h:l[i]? = some x):eR (.list l) (.int (i:Int))=some x:=by
 have lt:i<l.length:=eV h
 have e:seqIndex? (i:Int) l.length=some i:=by
  unfold seqIndex?
  have h:¬ (i:Int)<0:=by lia
  rw [if_neg h];show (if (decide (0≤(i:Int))&&decide ((i:Int)<l.length))=true then some (i:Int).toNat else none)=some i
  rw [decide_eq_true (Int.natCast_nonneg i),decide_eq_true (Int.ofNat_lt.mpr lt)];rfl
 show (seqIndex? _ _).bind _=_
 rw [e];exact h
theorem sW {a b n:Nat}(h:a≤b):Min.min a n≤Min.min b n:=Nat.le_min.mpr ⟨aaf (Nat.min_le_left _ _) h,Nat.min_le_right _ _⟩
structure Bnd (ks:du) (r:List Nat) (i j ci cj:Nat):Prop where
 lo:(i=0∧ci=0)∨∃ e,ks[i]? = some e∧ltE r e.1=false∧ci=lcp r e.1
 hi:(j=ks.length∧cj=0)∨∃ e,ks[j]? = some e∧ltE r e.1=true∧cj=lcp r e.1
theorem Bnd.min {ks:du}{r:List Nat}{i j ci cj m:Nat}{e:List Nat×Int×Int}(s:fV ks=true) (B:Bnd ks r i j ci cj) (h1:i≤m) (h2:m<j) (h3:i<m∨ci=0) (he:ks[m]? = some e):Nat.min ci cj≤lcp r e.1:=by
 rcases B.lo with ⟨_,rfl⟩ | ⟨a,ha,la,rfl⟩
 ·exact aaf (Nat.min_le_left _ _) (Nat.zero_le _)
 ·rcases B.hi with ⟨_,rfl⟩ | ⟨b,hb,lb,rfl⟩
  ·exact aaf (Nat.min_le_right _ _) (Nat.zero_le _)
  ·rcases h3 with h3 | h3
   ·have l1:Nat.min (lcp r a.1) (lcp r b.1)≤lcp r a.1:=Nat.min_le_left _ _
    have l2:Nat.min (lcp r a.1) (lcp r b.1)≤lcp r b.1:=Nat.min_le_right _ _
    generalize Nat.min (lcp r a.1) (lcp r b.1)=q at l1 l2
    have l3:=(kA r a.1).1
    have p0:∀ e,q≤lcp r e→r.take q <+: e:=fun e h=>(List.prefix_of_prefix_length_le (List.take_prefix q r) (List.take_prefix (lcp r e) r) (by rw [List.length_take,List.length_take];exact sW h)).trans (jN r e)
    have:=sV (List.take_prefix q r) (lE (p0 a.1 l1) (p0 b.1 l2) (ji (dv s h3 ha he)) (ji (dv s h2 he hb)))
    rw [List.length_take,Nat.min_eq_left (by lia)] at this
    exact this
   ·rw [h3];exact aaf (Nat.min_le_left _ _) (Nat.zero_le _)
structure Tab (G:Sg) (σ:St) (a:Addr) (tbl:List Row) (ks:du) (pos:Nat→Nat→Int) (rng:X) (c L:Int):Prop where
 at_:At a tbl
 keys:∀ (i:Nat) (e:Row),tbl[i]? = some e→∃ key,ks[i]? = some (key,e.2)∧key.length=e.1.length∧e.1.length≤1000∧∀ (q x:Nat),key[q]? = some x→eR (.str e.1) (.int (pos e.1.length q))=some (.str [x])
 len:ks.length=tbl.length
 rng:∀ (i j ci cj:Nat) (fk:Bool) (kk d i2:Option V) (m:Nat) (x:Addr) (e:Row),m≤e.1.length→e.1.length≤1000→roA tbs x=some (iV e)→∃ v,ev G (rh (.list (aQ a tbl)) c L i j ci cj fk kk d (some (.int m)) (some (.g (.ref x))) i2) σ rng=some (v,σ)∧eH v=some ((List.range' m (e.1.length - m)).map fun q=>V.int (pos e.1.length q))
theorem outer {G:Sg}(hP:G.P=P2) {a:Addr}{tbl:List Row}{ks:du}{pos:Nat→Nat→Int}{rng:X}(T:Av G σ (.list (aQ a tbl)) c L tst ix r) (Z:Tab G σ a tbl ks pos rng c L) (ok:jk ks=true) {n:Nat}{Q:aP}
 (h:∀ (i j ci cj:Nat) (fk:Bool) (kk d m w i2:Option V),Fnd ks r i ci→Q .next (rh (.list (aQ a tbl)) c L i j ci cj fk kk d m w i2) σ) :
 ∀ (z i j ci cj:Nat) (fk:Bool) (kk d m w i2:Option V),j - i+mu fk<z→i<j→j≤ks.length→Bnd ks r i j ci cj→(fk=false∧i+2≤j∧(i=0→ci=0)∨fk=true∧i=0∧j=1∧ci=0)→RW G n (.bool true) (ou tst ix rng) z (rh (.list (aQ a tbl)) c L i j ci cj fk kk d m w i2) σ Q
 | 0,_,_,_,_,_,_,_,_,_,_,hz,_,_,_,_=>absurd hz (Nat.not_lt_zero _)
 | z+1,i,j,ci,cj,fk,kk,d,m,w,i2,hz,hij,hj,B,hf=>by
  have s:=(aac.mp (aac.mp (aac.mp ok).1).1).1
  obtain ⟨q,hq⟩:∃ q,q=i+(j - i) / 2:=⟨_,rfl⟩
  have q1:i≤q:=hq▸Nat.le_add_right _ _
  have q2:q<j:=E2 hq hij
  have q3:i<q∨ci=0:=hf.elim (fun h=>.inl (kB hq h.2.1)) fun h=>.inr h.2.2.2
  obtain ⟨e,he⟩:∃ e,tbl[q]? = some e:=⟨_,List.getElem?_eq_getElem (Z.len▸Nat.lt_of_lt_of_le q2 hj)⟩
  obtain ⟨key,hk,hkl,hkb,hkx⟩:=Z.keys q e he
  have ro:=Z.at_ q e he
  have mn:Nat.min ci cj≤lcp r key:=B.min s q1 q2 q3 hk
  have kl:=(kA r key).2
  have after:∀ {a:Nat}{e f:List Nat×Int×Int}{b:Nat},ltE r e.1=true→ks[a]? = some e→a≤b→ks[b]? = some f→ltE r f.1=true:=fun {a e f b} h1 h2 h3 h4=>by
   rcases Nat.lt_or_eq_of_le h3 with h | h
   ·exact yD h1 (dv s h h2 h4)
   ·subst h;obtain rfl:=aaa (h2.symm.trans h4);exact h1
  refine .turn rfl (.set (i:=9) (v:=.int q) (dK (CS hq hij) rfl) (.set rfl (.set (v:=.int (Nat.min ci cj:Nat)) (dK (CT ci cj) rfl) (.set (v:=.g (.ref (a+1+3*q))) (bJ (gW (mJ he)) rfl rfl) ?_))))
  obtain ⟨v,ev1,it⟩:=Z.rng i j ci cj fk (some (.int q)) (some (.int 0)) i2 (Nat.min ci cj) _ e (hkl▸aaf mn kl) hkb ro
  refine .for1 ev1 it ?_
  have sp:∀ (l:List Nat) (n:Nat),n≤l.length→l=l.take n++l.drop n∧(l.take n).length=n:=fun l n h=>⟨(List.take_append_drop n l).symm,by rw [List.length_take,Nat.min_eq_left h]⟩
  obtain ⟨r1,r2⟩:=sp r (Nat.min ci cj) (aaf mn (kA r key).1)
  obtain ⟨k1,k2⟩:=sp key (Nat.min ci cj) (aaf mn kl)
  have same:r.take (Nat.min ci cj)=key.take (Nat.min ci cj):=by
   have p1:r.take (Nat.min ci cj) <+: key:=(List.prefix_of_prefix_length_le (List.take_prefix _ r) (List.take_prefix (lcp r key) r) (by rw [List.length_take,List.length_take];exact sW mn)).trans (jN r key)
   have:=List.prefix_iff_eq_take.mp p1
   rw [r2] at this;exact this
  have go:=fun (Q:aP)=>BC (n:=n) (kk:=some (.int q)) (i:=i) (j:=j) (ci:=ci) (cj:=cj) (fk:=fk) (Q:=Q) hP T ro hkx (key.drop (Nat.min ci cj)) (key.take (Nat.min ci cj)) (r.drop (Nat.min ci cj)) i2 (by rw [← same];exact r1) k1
  simp only [k2,aal,hkl] at go
  refine go _ ?_
  ·intro d' i2' hd;clear go
   have fin:∀ (i' j' ci' cj':Nat),(j'≤i'+1→(0<i'∨j'=i'∨fk=true)→Fnd ks r i' ci')→(j'≤i'+1→¬ 0<i'→j'≠i'→fk=false→RW G n (.bool true) (ou tst ix rng) z (rh (.list (aQ a tbl)) c L i' j' ci' cj' true (some (.int q)) (some (.int d')) (some (.int (lcp r key:Nat))) (some (.g (.ref (a+1+3*q)))) i2') σ Q)→(i'+2≤j'→RW G n (.bool true) (ou tst ix rng) z (rh (.list (aQ a tbl)) c L i' j' ci' cj' fk (some (.int q)) (some (.int d')) (some (.int (lcp r key:Nat))) (some (.g (.ref (a+1+3*q)))) i2') σ Q) →
    RB G n [.ite (.cmp .le (.bin .sub (.loc 3) (.loc 2)) (.int 1)) [.ite (.cmp .gt (.loc 2) (.int 0)) [.brk] [],.ite (.cmp .eq (.loc 3) (.loc 2)) [.brk] [],.ite (.loc 8) [.brk] [],.set 8 (.bool true)] []] (rh (.list (aQ a tbl)) c L i' j' ci' cj' fk (some (.int q)) (some (.int d')) (some (.int (lcp r key:Nat))) (some (.g (.ref (a+1+3*q)))) i2') σ (n8 (fun ρ σ=>RW G n (.bool true) (ou tst ix rng) z ρ σ Q) Q):=by
    intro i' j' ci' cj' f1 f2 f3
    by_cases c1:j'≤i'+1
    ·refine .iteT (cA rfl (gap.mpr c1)) ?_
     by_cases c2:0<i'
     ·exact .iteT (cA rfl (Int.natCast_pos.mpr c2)) (.brk (h _ _ _ _ _ _ _ _ _ _ (f1 c1 (.inl c2))))
     ·refine .skip (cG rfl fun h=>c2 (Int.natCast_pos.mp h)) ?_
      by_cases c3:j'=i'
      ·exact .iteT (gN (p:=(j':Int)==i') rfl (by rw [c3];exact beq_self_eq_true _)) (.brk (h _ _ _ _ _ _ _ _ _ _ (f1 c1 (.inr (.inl c3)))))
      ·refine .skip (gN (p:=(j':Int)==i') rfl (beq_eq_false_iff_ne.mpr fun h=>c3 (Int.ofNat.inj h))) ?_
       cases hfk:fk with
       | true=>exact .iteT rfl (.brk (h _ _ _ _ _ _ _ _ _ _ (f1 c1 (.inr (.inr hfk)))))
       | false=>exact .skip rfl (.set rfl (.nil (.nil (f2 c1 c2 c3 hfk))))
    ·exact .skip (cG rfl fun h=>c1 (gap.mp h)) (.nil (f3 (Nat.lt_of_not_le c1)))
   by_cases lt:ltE r key=true
   ·refine .iteT (cA rfl (hd.mpr lt)) (.set rfl (.set rfl (.nil (fin i q ci (lcp r key) (fun c1 c2=>?_) (fun c1 c2 c3 c4=>?_) fun c1=>?_))))
    ·rcases hf with ⟨f1,f2,f3⟩ | ⟨f1,f2,f3,f4⟩
     ·have i0:0<i:=c2.elim id fun c2=>c2.elim (fun c2=>absurd (kB hq f2) (c2▸Nat.lt_irrefl _)) fun c2=>Bool.noConfusion (f1.symm.trans c2)
      rcases B.lo with ⟨z0,_⟩ | ⟨e0,g1,g2,g3⟩
      ·exact absurd i0 (z0▸Nat.lt_irrefl _)
      ·exact ⟨e0,g1,.inl ⟨g2,g3,fun b f hb hbf=>after lt hk (aaf c1 hb) hbf⟩⟩
     ·have:q=0:=Nat.lt_one_iff.mp (Nat.lt_of_lt_of_eq q2 f3)
      subst this
      exact ⟨_,by rw [f2];exact hk,.inr ⟨f2,f4,lt⟩⟩
    ·rcases hf with ⟨f1,f2,f3⟩ | ⟨f1,f2,f3,f4⟩
     ·have i0:i=0:=Nat.eq_zero_of_not_pos c2
      exact outer hP T Z ok h z _ _ _ _ _ _ _ _ _ _ (Nat.lt_of_lt_of_le (Nat.sub_lt_sub_right q1 q2) (E3 hz c4)) (Nat.lt_of_le_of_ne q1 (Ne.symm c3)) (aaf (Nat.le_of_lt q2) hj) ⟨B.lo,.inr ⟨_,hk,lt,rfl⟩⟩ (.inr ⟨rfl,i0,E4 (i0▸c1) (i0▸c3),f3 i0⟩)
     ·rw [f1] at c4;injection c4
    ·rcases hf with ⟨f1,f2,f3⟩ | ⟨f1,f2,f3,f4⟩
     ·exact outer hP T Z ok h z _ _ _ _ _ _ _ _ _ _ (yE hz (Nat.sub_lt_sub_right q1 q2)) (Nat.lt_of_succ_lt c1) (aaf (Nat.le_of_lt q2) hj) ⟨B.lo,.inr ⟨_,hk,lt,rfl⟩⟩ (.inl ⟨f1,c1,f3⟩)
     ·exact absurd (aaf c1 (Nat.le_of_lt_succ (Nat.lt_of_lt_of_eq q2 f3))) (Nat.not_succ_le_zero _)
   ·have lt:ltE r key=false:=by cases w:ltE r key<;>first | rfl | exact absurd w lt
    have past:∀ b f,j≤b→ks[b]? = some f→ltE r f.1=true:=fun b f hb hbf=>by
     rcases B.hi with ⟨j0,_⟩ | ⟨e0,g1,g2,g3⟩
     ·exact absurd (eV hbf) (Nat.not_lt_of_le (j0▸hb))
     ·exact after g2 g1 hb hbf
    refine .iteF (cG rfl fun z=>by rw [hd.mp z] at lt;injection lt) (.set rfl (.set rfl (.nil (fin q j (lcp r key) cj (fun c1 c2=>?_) (fun c1 c2 c3 c4=>?_) fun c1=>?_))))
    ·exact ⟨_,hk,.inl ⟨lt,rfl,fun b f hb hbf=>past b f (aaf c1 hb) hbf⟩⟩
    ·rcases hf with ⟨f1,f2,f3⟩ | ⟨f1,f2,f3,f4⟩
     ·exact absurd (Nat.lt_of_le_of_lt (Nat.zero_le _) (kB hq f2)) c2
     ·rw [f1] at c4;injection c4
    ·rcases hf with ⟨f1,f2,f3⟩ | ⟨f1,f2,f3,f4⟩
     ·exact outer hP T Z ok h z _ _ _ _ _ _ _ _ _ _ (yE hz (Nat.sub_lt_sub_left hij (kB hq f2))) (Nat.lt_of_succ_lt c1) hj ⟨.inr ⟨_,hk,lt,rfl⟩,B.hi⟩ (.inl ⟨f1,c1,fun h0=>absurd (kB hq f2) (h0▸Nat.not_lt_zero _)⟩)
     ·exact absurd (aaf (Nat.le_add_left _ _) (f3▸c1)) (by decide)
end
end Mine
end
section
open PySem PySem.W PyProof.Rows
open Mine.Eng (ae aa bF bl)
namespace Mine
theorem up3 {a x n:Nat}(h:a+3+1≤x∧x<a+3+3*n):a+1≤x∧x<a+3*(n+1):=by omega
theorem up0 {a x n:Nat}(h:x=a+1):a+1≤x∧x<a+3*(n+1):=by omega
theorem up1 {a i:Nat}(h:a+1+3*(i+1)=a+1):False:=by lia
theorem up2 (a i:Nat):a+3+1+3*i=a+1+3*(i+1):=by lia
theorem mK:∀ {l:List Row}{a x:Nat}{f:ah},roT a l x=some f→a+1≤x∧x<a+3*l.length
 | e :: l,a,x,f,h=>by
  unfold roT at h
  by_cases q:((x:Addr)==a+1)=true
  ·exact up0 (eq_of_beq q)
  ·rw [if_neg q] at h
   exact up3 (mK (a:=a+3) h)
noncomputable def vt:List (Addr×List Row)→Bool
 | []=>true
 | t :: r=>(r.all fun u=>Nat.ble (t.1+3*t.2.length) u.1)&&vt r
theorem yF:∀ {T:List (Addr×List Row)}{a:Addr}{tbl:List Row}{x:Addr}{f:ah},(a,tbl)∈T→vt T=true→roT a tbl x=some f→roA T x=some f
 | t :: r,a,tbl,x,f,h,s,e=>by
  unfold roA
  rcases List.mem_cons.mp h with h | h
  ·rw [show t=(a,tbl) from h.symm]
   dsimp only
   rw [e]
  ·obtain ⟨s1,s2⟩:=aac.mp s
   cases q:roT t.1 t.2 x with
   | none=>exact yF h s2 e
   | some g =>
    exfalso
    have h1:=(mK q).2
    have h2:=(mK e).1
    have h3:=aan (aab.mp s1 _ h)
    exact absurd h1 (Nat.not_lt.mpr (aaf h3 (Nat.le_of_succ_le h2)))
theorem yG:∀ {l:List Row}{a:Addr}{i:Nat}{e:Row},l[i]? = some e→roT a l (a+1+3*i)=some (iV e)
 | e :: l,a,0,_,h=>by
  obtain rfl:=aaa h
  unfold roT
  exact if_pos (beq_self_eq_true _)
 | e :: l,a,i+1,f,h=>by
  have:=yG (l:=l) (a:=a+3) h
  unfold roT
  have n:¬ ((a+1+3*(i+1):Addr)==a+1)=true:=fun q=>up1 (a:=a) (i:=i) (eq_of_beq q)
  rw [if_neg n]
  have z:(a:Addr)+1+3*(i+1)=a+3+1+3*i:=(up2 a i).symm
  rw [z];exact this
theorem BD {a:Addr}{tbl:List Row}(h:(a,tbl)∈tbs):At a tbl:=fun i e q=>yF h (by decide) (yG q)
theorem dQ {l:List Nat}{i:Nat}{j:Int}{x:Nat}(q:j=i) (h:l[i]? = some x):eR (.str l) (.int j)=some (.str [x]):=by
 subst q
 have lt:i<l.length:=eV h
 have e:seqIndex? (i:Int) l.length=some i:=by
  unfold seqIndex?
  have h:¬ (i:Int)<0:=by lia
  rw [if_neg h];show (if (decide (0≤(i:Int))&&decide ((i:Int)<l.length))=true then some (i:Int).toNat else none)=some i
  rw [decide_eq_true (Int.natCast_nonneg i),decide_eq_true (Int.ofNat_lt.mpr lt)];rfl
 show (seqIndex? _ _).bind _=_
 rw [e];show (l[i]?).map _=_
 rw [h];rfl
noncomputable def E5:X:=.rng [.loc 11,.bi .len [.attr (.loc 12) 9]]
noncomputable def E6:X:=.rng [.bin .sub (.bin .sub (.bi .len [.attr (.loc 12) 9]) (.int 1)) (.loc 11),.neg (.int 1),.neg (.int 1)]
noncomputable def back (l:List Row):du:=l.map fun e=>(e.1.reverse,e.2)
noncomputable def BE (l:List Row):Bool:=l.all fun e=>Nat.ble e.1.length 1000
theorem fG {G:Sg}{ρ:Rho}{σ:St}{a:X}{x:V}{r:List X}{vs:List V}(h1:ev G ρ σ a=some (x,σ)) (h2:evs G ρ σ r=some (vs,σ)):evs G ρ σ (a :: r)=some (x :: vs,σ):=by
 show (ev G ρ σ a).bind _=_
 rw [h1];show (evs G ρ σ r).map _=_
 rw [h2];rfl
theorem sX {G:Sg}{ρ:Rho}{σ:St}{xs:List X}{vs:List V}{v:V}(h:evs G ρ σ xs=some (vs,σ)) (q:v4 vs=some v):ev G ρ σ (.rng xs)=some (v,σ):=by
 show (evs G ρ σ xs).bind _=_
 rw [h];show (v4 vs).map _=_
 rw [q];rfl
theorem dc {G:Sg}{ρ:Rho}{σ:St}{a b:X}{x y:Int}(h1:ev G ρ σ a=some (.int x,σ)) (h2:ev G ρ σ b=some (.int y,σ)):ev G ρ σ (.bin .sub a b)=some (.int (x - y),σ):=by
 show (ev G ρ σ a).bind _=_
 rw [h1];show (ev G ρ σ b).bind _=_
 rw [h2];rfl
theorem de {G:Sg}{ρ:Rho}{σ:St}{a:X}{l:List Nat}(h:ev G ρ σ a=some (.str l,σ)):ev G ρ σ (.bi .len [a])=some (.int l.length,σ):=by
 show ((ev G ρ σ a).bind fun p=>some ([p.1],p.2)).bind _=_
 rw [h];rfl
theorem CU {m n:Nat}(h:m≤n) (hn:n≤1000):eH (.rng m n 1)=some ((List.range' m (n - m)).map fun q=>V.int (q:Nat)):=by
 unfold eH;dsimp only
 rw [if_pos ⟨Int.le_trans (by decide) (Int.natCast_nonneg m),Int.ofNat_le.mpr (aaf (aaf h hn) (by decide)),Int.le_trans (by decide) (Int.natCast_nonneg n),Int.ofNat_le.mpr (aaf hn (by decide))⟩,if_pos rfl,List.range'_eq_map_range,List.map_map,Int.toNat_sub]
 congr 1
 refine List.map_congr_left fun i zz=>?_
 show V.int ((m:Int)+(i:Int)*1)=V.int ((m+i:Nat):Int)
 rw [Int.mul_one,Int.natCast_add]
theorem yH {m n:Nat}(h:m≤n) (hn:n≤1000):eH (.rng ((n:Int) - 1 - m) (-1) (-1))=some ((List.range' m (n - m)).map fun (q:Nat)=>V.int ((n:Int) - 1 - q)):=by
 unfold eH;dsimp only
 rw [if_pos (by omega),if_neg (by decide),if_pos rfl,List.range'_eq_map_range,List.map_map,show ((n:Int) - 1 - m - -1).toNat=n - m by lia]
 congr 1
 refine List.map_congr_left fun i zz=>?_
 show V.int ((n:Int) - 1 - m+(i:Int)*(-1))=V.int ((n:Int) - 1 - ((m+i:Nat):Int))
 congr 1;lia
section
variable {G:Sg}{σ:St}{a:Addr}{tbl:List Row}{c L:Int}
theorem HE (hP:G.P=P2) (h:(a,tbl)∈tbs) (hl:BE tbl=true):Tab G σ a tbl tbl (fun zz q=>q) E5 c L where
 at_:=BD h
 keys:=fun i e he=>⟨e.1,he,rfl,aan (aab.mp hl e (aah he)),fun q x hq=>dQ rfl hq⟩
 len:=rfl
 rng:=fun i j ci cj fk kk d i2 m x e h1 h2 h3=>⟨_,sX (fG rfl (fG (de (gp hP rfl h3 (.inl rfl) rfl)) rfl)) rfl,CU h1 h2⟩
theorem HF (hP:G.P=P2) (h:(a,tbl)∈tbs) (hl:BE tbl=true):Tab G σ a tbl (back tbl) (fun n q=>(n:Int) - 1 - q) E6 c L where
 at_:=BD h
 keys:=fun i e he=>⟨e.1.reverse,by unfold back;rw [List.getElem?_map,he];rfl,aad,aan (aab.mp hl e (aah he)),fun q x hq=>by
  have lt:=eV hq
  rw [aad] at lt
  rw [List.getElem?_reverse lt] at hq
  exact dQ (i:=e.1.length - 1 - q) (by omega) hq⟩
 len:=List.length_map _
 rng:=fun i j ci cj fk kk d i2 m x e h1 h2 h3=>⟨_,sX (fG (dc (dc (de (gp hP rfl h3 (.inl rfl) rfl)) rfl) rfl) rfl) rfl,yH h1 h2⟩
end
noncomputable def xg (mv:X):List S:=[.set 12 (.idx (.loc 1) (.loc 2)),.ite (.cmp .ge (.loc 6) (.bi .len [.attr (.loc 12) 9])) [.setA (.loc 0) 1 mv,.ret (.attr (.loc 12) 11)] [],.set 2 (.attr (.loc 12) 10),.ite (.cmp .lt (.loc 2) (.int 0)) [.ret (.int 0)] []]
noncomputable abbrev Hit:=Option (List Nat×Int)
noncomputable def mL:Hit→Int
 | some x=>x.2
 | none=>0
noncomputable def fH:Hit→Nat
 | some x=>x.1.length
 | none=>0
section
variable {G:Sg}{w0:List Nat}{c0 l lb bra ket:Int}{ex:ah}{tst ix mv rng:X}{r:List Nat}{a:Addr}{tbl:List Row}{ks:du}{pos:Nat→Nat→Int}{c L:Int}{n k n':Nat}{Q:aP}{to:Nat→Int}
theorem BF {ρ:Rho}{σ:St}{x y:X}{i j:Int}(h1:ev G ρ σ x=some (.int i,σ)) (h2:ev G ρ σ y=some (.int j,σ)):ev G ρ σ (.cmp .ge x y)=some (.bool (decide (i≥j)),σ):=by
 show (ev G ρ σ x).bind _=_
 rw [h1];show (ev G ρ σ y).bind _=_
 rw [h2];rfl
theorem yI (hP:G.P=P2) (Z:Tab G (st w0 c0 l lb bra ket ex) a tbl ks pos rng c L) (ok:jk ks=true) {j ci cj:Nat}{fk:Bool}{kk d m:Option V}
 (hm:∀ (i:Int) (i2:Option V) (x:Addr) (e:Row),roA tbs x=some (iV e)→ev G [some (.obj 0),some (.list (aQ a tbl)),some (.int i),some (.int j),some (.int c),some (.int L),some (.int ci),some (.int cj),some (.bool fk),kk,d,m,some (.g (.ref x)),i2] (st w0 c0 l lb bra ket ex) mv=some (.int (to e.1.length),st w0 c0 l lb bra ket ex))
 {g:Hit}(hq:∀ ρ σ,(g=none→σ=st w0 c0 l lb bra ket ex)→(∀ x,g=some x→σ=st w0 (to x.1.length) l lb bra ket ex)→Q (.ret (.int (mL g))) ρ σ) :
 ∀ (z i:Nat) (e:List Nat×Int×Int) (w i2:Option V),ks[i]? = some e→e.1.length<z→iq ks ci z i=g→RW G n' (.bool true) (xg mv) (z+k) (rh (.list (aQ a tbl)) c L i j ci cj fk kk d m w i2) (st w0 c0 l lb bra ket ex) Q
 | 0,_,_,_,_,_,hz,_=>absurd hz (Nat.not_lt_zero _)
 | z+1,i,e,w,i2,he,hz,hg=>by
  obtain ⟨e',he'⟩:∃ e',tbl[i]? = some e':=⟨_,List.getElem?_eq_getElem (by rw [← Z.len];exact eV he)⟩
  obtain ⟨key,hk,hkl,hkb,hkx⟩:=Z.keys i e' he'
  obtain rfl:=aaa (he.symm.trans hk)
  have ro:=Z.at_ i e' he'
  have hz:key.length<z+1:=hz
  unfold iq at hg
  rw [hk] at hg
  dsimp only at hg
  rw [Nat.add_right_comm]
  refine .turn rfl (.set (v:=.g (.ref (a+1+3*i))) (bJ (gW (mJ he')) rfl rfl) ?_)
  have eg:=BF (G:=G) (σ:=st w0 c0 l lb bra ket ex) (ρ:=[some (.obj 0),some (.list (aQ a tbl)),some (.int i),some (.int j),some (.int c),some (.int L),some (.int ci),some (.int cj),some (.bool fk),kk,d,m,some (.g (.ref (a+1+3*i))),i2]) (x:=.loc 6) (i:=ci) rfl (de (gp (x:=.loc 12) hP rfl ro (.inl rfl) rfl))
  by_cases q:key.length≤ci
  ·rw [if_pos q] at hg
   refine .iteT (cA eg (by show (ci:Int)≥e'.1.length;omega)) (.set1 hP rfl (hm _ _ _ _ ro) (.ret (v:=.int (mL g)) (lz (gp hP rfl ro (.inr (.inr rfl)) rfl) ?_) (hq _ _ ?_ ?_)))
   ·rw [← hg];rfl
   ·intro h;rw [h] at hg;injection hg
   ·intro x hx;rw [hx] at hg;obtain rfl:=aaa hg;rw [← hkl];rfl
  ·rw [if_neg q] at hg
   refine .skip (cG eg (by show ¬ (ci:Int)≥e'.1.length;omega)) (.set (v:=.int e'.2.1) (gp hP rfl ro (.inr (.inl rfl)) rfl) ?_)
   by_cases q2:e'.2.1<0
   ·rw [if_pos q2] at hg
    refine .iteT (cA rfl q2) (.ret (v:=.int (mL g)) (by rw [← hg];rfl) (hq _ _ (fun zz=>rfl) fun x hx=>?_))
    rw [hx] at hg;injection hg
   ·rw [if_neg q2] at hg
    have lk:=aab.mp (aac.mp (aac.mp (aac.mp ok).1).1).2 _ (aah hk)
    unfold oq at lk
    rw [if_neg q2] at lk
    dsimp only at lk
    cases hgg:ks[e'.2.1.toNat]? with
    | none=>rw [hgg] at lk;injection lk
    | some f =>
     rw [hgg] at lk
     have lt:f.1.length<key.length:=aan (aac.mp (aac.mp lk).1).2
     have ei:(e'.2.1:Int)=(e'.2.1.toNat:Nat):=by lia
     have:=yI hP Z ok hm hq z e'.2.1.toNat f (some (.g (.ref (a+1+3*i)))) i2 hgg (by lia) hg
     refine .skip (cG rfl q2) (.nil ?_)
     show RW G n' (.bool true) (xg mv) (z+k) [some (.obj 0),some (.list (aQ a tbl)),some (.int e'.2.1),some (.int j),some (.int c),some (.int L),some (.int ci),some (.int cj),some (.bool fk),kk,d,m,some (.g (.ref (a+1+3*i))),i2] (st w0 c0 l lb bra ket ex) Q
     rw [ei];exact this
end
noncomputable def GX (c1:S) (tst ix rng mv:X):List S:=[.set 2 (.int 0),.set 3 (.bi .len [.loc 1]),.set 4 (.attr (.loc 0) 1),c1,.set 6 (.int 0),.set 7 (.int 0),.set 8 (.bool false),.whl (.bool true) (ou tst ix rng),.whl (.bool true) (xg mv),.ret (.neg (.int 1))]
section
variable {k:Nat}{w0:List Nat}{c0 l lb bra ket:Int}{ex:ah}{tst ix mv rng:X}{r b:List Nat}{a:Addr}{tbl:List Row}{ks:du}{pos:Nat→Nat→Int}{L:Int}{Q:aP}{to:Nat→Int}{at_:Nat}
theorem oz:∀ (l:List Row) (a:Addr),(aQ a l).length=l.length
 | [],_=>rfl
 | _ :: l,a=>congrArg (· + 1) (oz l (a+3))
theorem yJ (ha:cL P2 (st w0 c0 l lb bra ket ex) (.obj 0) at_=some (.int L)) (T:Av (GG k) (st w0 c0 l lb bra ket ex) (.list (aQ a tbl)) c0 L tst ix r) (Z:Tab (GG k) (st w0 c0 l lb bra ket ex) a tbl ks pos rng c0 L) (ok:jk ks=true) (hn:ks.length<900) (hl:∀ e∈ks,e.1.length<900)
 (hm:∀ (ρ:Rho) (x:Addr) (e:Row),ρ[4]? = some (some (.int c0))→ρ[12]? = some (some (.g (.ref x)))→roA tbs x=some (iV e)→ev (GG k) ρ (st w0 c0 l lb bra ket ex) mv=some (.int (to e.1.length),st w0 c0 l lb bra ket ex)) :
 aA (gw (GG k) aO 2 12 (GX (.set 5 (.attr (.loc 0) at_)) tst ix rng mv)) [.obj 0,.list (aQ a tbl)] (st w0 c0 l lb bra ket ex) fun v σ=>v = .int (mL (ae (ks.map bI) r))∧(ae (ks.map bI) r=none→σ=st w0 c0 l lb bra ket ex)∧∀ x,ae (ks.map bI) r=some x→σ=st w0 (to x.1.length) l lb bra ket ex:=by
 have len2:2≤ks.length:=aan (aac.mp ok).2
 have e5:∀ ρ:Rho,bo ρ→ev (GG k) ρ (st w0 c0 l lb bra ket ex) (.attr (.loc 0) at_)=some (.int L,st w0 c0 l lb bra ket ex):=fun ρ h=>by
  show (ev (GG k) ρ _ (.loc 0)).bind _=_
  rw [dJ h];show (cL P2 _ _ at_).map _=_
  rw [ha];rfl
 refine aw rfl (.set rfl (.set (v:=.int (ks.length:Nat)) (σ':=st w0 c0 l lb bra ket ex) ?_ (.set rfl (.set (e5 _ rfl) (.set rfl (.set rfl (.set rfl (.whl (outer (r:=r) rfl T Z ok ?_ aO 0 ks.length 0 0 false none none none none none ?_ ?_ (Nat.le_refl _) ⟨.inl ⟨rfl,rfl⟩,.inl ⟨rfl,rfl⟩⟩ (.inl ⟨rfl,?_,fun zz=>rfl⟩))))))))))
 ·show some (V.int ((aQ a tbl).length:Nat),_)=_
  rw [oz,Z.len]
 ·intro i j ci cj fk kk d m w i2 F
  obtain ⟨e,he,_⟩:=F.at_
  refine .whl ?_
  have:=F.chain (n:=900) ok hl
  exact yI (k:=100) (to:=to) rfl Z ok (fun i i2 x e h=>hm _ x e rfl rfl h) (fun ρ σ h1 h2=>⟨rfl,h1,h2⟩) 900 i e w i2 he (hl e (aah he)) this
 ·show ks.length - 0+1<1000;exact Nat.lt_of_le_of_lt (by assumption) (by decide)
 ·lia
 ·omega
theorem sY {T:List (List Nat×Int)}{r:List Nat} : fH (ae T r)≤r.length:=by
 cases h:ae T r with
 | none=>exact Nat.zero_le _
 | some x=>exact (aa h).2.length_le
theorem E7 {n m:Nat}{p:Bool}(h:p=decide (m=n)):V.bool p=V.bool (decide (m=n)):=h▸rfl
theorem bU {w w':List Nat}{c c' l l':Int}(h1:w=w') (h2:c=c') (h3:l=l'):st w c l lb bra ket ex=st w' c' l' lb bra ket ex:=by rw [h1,h2,h3]
theorem Aw {n:Nat}(h:n≤b.length):st (r.reverse++b) ((r.length:Int)+n) (r.length+b.length:Nat) lb bra ket ex=sP ((b.take n).reverse++r) (b.drop n) lb bra ket ex:=by
 refine bU ?_ ?_ ?_
 ·rw [List.reverse_append,aaq,aap,List.take_append_drop]
 ·rw [List.length_append,aad,List.length_take,Nat.min_eq_left h];lia
 ·rw [List.length_append,aad,List.length_take,Nat.min_eq_left h,aal];omega
theorem Ax {n:Nat}(h:n≤r.length):st (r.reverse++b) ((r.length:Int) - n) (r.length+b.length:Nat) lb bra ket ex=sP (r.drop n) ((r.take n).reverse++b) lb bra ket ex:=by
 refine bU ?_ ?_ ?_
 ·rw [← aap,← List.reverse_append,List.take_append_drop]
 ·rw [aal];exact (Int.ofNat_sub (by assumption)).symm
 ·rw [List.length_append,aad,List.length_take,Nat.min_eq_left h,aal];omega
theorem fJ {G:Sg}{ρ:Rho}{σ:St}{i:Nat}{v:V}(h:ρ[i]? = some (some v)):ev G ρ σ (.loc i)=some (v,σ):=by
 show (ρ[i]?).bind _=_
 rw [h];rfl
theorem pM {G:Sg}{ρ:Rho}{σ:St}{a b:X}{x y:Int}(h1:ev G ρ σ a=some (.int x,σ)) (h2:ev G ρ σ b=some (.int y,σ)):ev G ρ σ (.bin .add a b)=some (.int (x+y),σ):=by
 show (ev G ρ σ a).bind _=_
 rw [h1];show (ev G ρ σ b).bind _=_
 rw [h2];rfl
noncomputable def iG (tbl:List Row) (ks:du):Bool:=(tbl.all fun e=>Nat.blt e.1.length 900)&&Nat.blt tbl.length 900&&jk ks
theorem jX (k:Nat) (h:(a,tbl)∈tbs) (hl:iG tbl tbl=true):aA ((GG (k+1)).Φ 21) [.obj 0,.list (aQ a tbl)] (sP r b lb bra ket ex) fun v σ=>v = .int (mL (ae (tbl.map bI) b))∧σ=sP ((b.take (fH (ae (tbl.map bI) b))).reverse++r) (b.drop (fH (ae (tbl.map bI) b))) lb bra ket ex:=by
 obtain ⟨hl,ok⟩:=aac.mp hl
 obtain ⟨hl,hn⟩:=aac.mp hl
 have lt:∀ e∈tbl,e.1.length<900:=fun e he=>aan (aab.mp hl e he)
 refine aA.mono (yJ (k:=k) (r:=b) (tst:=.cmp .eq (.bin .add (.loc 4) (.loc 11)) (.loc 5)) (ix:=.bin .add (.loc 4) (.loc 11)) (rng:=E5) (mv:=.bin .add (.loc 4) (.bi .len [.attr (.loc 12) 9])) (at_:=2) (to:=fun n=>(r.length:Int)+n) rfl ⟨fun i j ci cj fk kk d w i2 m hm=>lz rfl (E7 ?_),fun i j ci cj fk kk d w i2 m x hx=>bJ (dQ (i:=r.length+m) ?_ ?_) rfl rfl⟩ (HE rfl h (aab.mpr fun e he=>Nat.ble_eq_true_of_le (aaf (Nat.le_of_lt (lt e he)) (by decide)))) ok (aan hn) lt fun ρ x e h4 h12 ro=>pM (fJ h4) (de (gp rfl (fJ h12) ro (.inl rfl) rfl))) ?_
 ·show ((r.length:Int)+m==((r.length+b.length:Nat):Int))=_
  rw [Bool.eq_iff_iff,beq_iff_eq,decide_eq_true_iff];lia
 ·lia
 ·rw [List.getElem?_append_right (by simp)];simpa using hx
 ·rintro v σ ⟨h1,h2,h3⟩
  refine ⟨h1,?_⟩
  rw [← Aw sY]
  cases hb:ae (tbl.map bI) b with
  | none=>rw [h2 hb];exact bU rfl (Int.add_zero _).symm rfl
  | some x=>exact h3 x hb
theorem oA (k:Nat) (h:(a,tbl)∈tbs) (hl:iG tbl (back tbl)=true):aA ((GG (k+1)).Φ 22) [.obj 0,.list (aQ a tbl)] (sP r b 0 bra ket ex) fun v σ=>v = .int (mL (ae ((back tbl).map bI) r))∧σ=sP (r.drop (fH (ae ((back tbl).map bI) r))) ((r.take (fH (ae ((back tbl).map bI) r))).reverse++b) 0 bra ket ex:=by
 obtain ⟨hl,ok⟩:=aac.mp hl
 obtain ⟨hl,hn⟩:=aac.mp hl
 have lt:∀ e∈tbl,e.1.length<900:=fun e he=>aan (aab.mp hl e he)
 refine aA.mono (yJ (k:=k) (r:=r) (tst:=.cmp .eq (.bin .sub (.loc 4) (.loc 11)) (.loc 5)) (ix:=.bin .sub (.bin .sub (.loc 4) (.int 1)) (.loc 11)) (rng:=E6) (mv:=.bin .sub (.loc 4) (.bi .len [.attr (.loc 12) 9])) (at_:=3) (to:=fun n=>(r.length:Int) - n) rfl ⟨fun i j ci cj fk kk d w i2 m hm=>lz rfl (E7 ?_),fun i j ci cj fk kk d w i2 m x hx=>bJ (dQ (i:=r.length - 1 - m) ?_ ?_) rfl rfl⟩ (HF rfl h (aab.mpr fun e he=>Nat.ble_eq_true_of_le (aaf (Nat.le_of_lt (lt e he)) (by decide)))) ok (by unfold back;rw [List.length_map];exact aan hn) (fun e he=>by obtain ⟨f,hf,rfl⟩:=List.mem_map.mp he;show f.1.reverse.length<_;rw [aad];exact lt f hf) fun ρ x e h4 h12 ro=>dc (fJ h4) (de (gp rfl (fJ h12) ro (.inl rfl) rfl))) ?_
 ·show ((r.length:Int) - m==0)=_
  rw [Bool.eq_iff_iff,beq_iff_eq,decide_eq_true_iff];omega
 ·have:=eV hx;omega
 ·have:=eV hx
  rw [List.getElem?_append_left (by rw [aad];omega),List.getElem?_reverse (by omega),show r.length - 1 - (r.length - 1 - m)=m by omega];exact hx
 ·rintro v σ ⟨h1,h2,h3⟩
  refine ⟨h1,?_⟩
  rw [← Ax sY]
  cases hb:ae ((back tbl).map bI) r with
  | none=>rw [h2 hb];exact bU rfl (Int.sub_zero _).symm rfl
  | some x=>exact h3 x hb
theorem vv:iG tb0 tb0=true∧iG gz gz=true:=by decide +kernel
theorem Ay:([tb1,tb2,tb3,tb4,tb5,tb6,tb7,tb8,tb9,jH].all fun t=>iG t (back t))=true:=by decide +kernel
end
end Mine
end
section
open PySem PySem.W PyProof.Rows
open Mine.Eng (ae aa bF bl vow jM aF inR)
namespace Mine
noncomputable abbrev e9 (y:Bool) (p1 p2:Int):ah:=[(6,.bool y),(7,.int p1),(8,.int p2)]
theorem ok9 {y:Bool}{p1 p2:Int} : cz (e9 y p1 p2):=fun m=>rfl
section
variable {k n m:Nat}{w s:List Nat}{c l lb bra ket:Int}{ex:ah}{ρ:Rho}{Q:aP}{xs:List X}{vs:List V}{a rest:List S}{i:Nat}{σ1:St}
theorem jl {P:V→St→Prop}(hm:m<30) (hx:cz ex) (h0:bo ρ) (ea:evs (GG k) ρ (st w c l lb bra ket ex) xs=some (vs,st w c l lb bra ket ex)) (g:aA ((GG k).Φ (m+12)) (.obj 0 :: vs) (st w c l lb bra ket ex) P):∃ v σ',ev (GG k) ρ (st w c l lb bra ket ex) (.meth (.loc 0) (m+12) xs)=some (v,σ')∧P v σ':=by
 obtain ⟨v,σ',e,p⟩:=g
 exact ⟨v,σ',(pF rfl hm (dJ h0) ea (hx m)).trans e,p⟩
theorem RB.setM {P:V→St→Prop}(g:aA ((GG k).Φ (m+12)) (.obj 0 :: vs) (st w c l lb bra ket ex) P) (hm:m<30) (hx:cz ex) (h0:bo ρ) (ea:evs (GG k) ρ (st w c l lb bra ket ex) xs=some (vs,st w c l lb bra ket ex)) (h:∀ v σ,P v σ→RB (GG k) n rest (ρ.set i (some v)) σ Q):RB (GG k) n (.set i (.meth (.loc 0) (m+12) xs) :: rest) ρ (st w c l lb bra ket ex) Q:=by
 obtain ⟨v,σ',e,p⟩:=jl hm hx h0 ea g
 exact .set e (h v σ' p)
theorem RB.notM {p:Bool}{R:St→Prop}(g:aA ((GG k).Φ (m+12)) (.obj 0 :: vs) (st w c l lb bra ket ex) fun v σ=>v = .bool p∧R σ) (hm:m<30) (hx:cz ex) (h0:bo ρ) (ea:evs (GG k) ρ (st w c l lb bra ket ex) xs=some (vs,st w c l lb bra ket ex)) (hF:p=false→∀ σ,R σ→RB (GG k) n a ρ σ (bW (fun ρ σ=>RB (GG k) n rest ρ σ Q) Q)) (hT:p=true→∀ σ,R σ→RB (GG k) n rest ρ σ Q):RB (GG k) n (.ite (.not (.meth (.loc 0) (m+12) xs)) a [] :: rest) ρ (st w c l lb bra ket ex) Q:=by
 obtain ⟨v,σ',e,rfl,r⟩:=jl hm hx h0 ea g
 refine .ite (p:=!p) (σ':=σ') ?_ (fun h=>hF (by cases p<;>first | rfl | injection h) _ r) fun h=>.nil (hT (by cases p<;>first | rfl | injection h) _ r)
 show (ev (GG k) ρ _ (.meth (.loc 0) (m+12) xs)).bind _=_
 rw [e];rfl
theorem RB.eq0M {i:Int}{R:St→Prop}(g:aA ((GG k).Φ (m+12)) (.obj 0 :: vs) (st w c l lb bra ket ex) fun v σ=>v = .int i∧R σ) (hm:m<30) (hx:cz ex) (h0:bo ρ) (ea:evs (GG k) ρ (st w c l lb bra ket ex) xs=some (vs,st w c l lb bra ket ex)) (hF:i=0→∀ σ,R σ→RB (GG k) n a ρ σ (bW (fun ρ σ=>RB (GG k) n rest ρ σ Q) Q)) (hT:i≠0→∀ σ,R σ→RB (GG k) n rest ρ σ Q):RB (GG k) n (.ite (.cmp .eq (.meth (.loc 0) (m+12) xs) (.int 0)) a [] :: rest) ρ (st w c l lb bra ket ex) Q:=by
 obtain ⟨v,σ',e,rfl,r⟩:=jl hm hx h0 ea g
 refine .ite (p:=i==0) (σ':=σ') ?_ (fun h=>hF (eq_of_beq h) _ r) fun h=>.nil (hT (fun q=>by rw [q] at h;injection h) _ r)
 show (ev (GG k) ρ _ (.meth (.loc 0) (m+12) xs)).bind _=_
 rw [e];rfl
theorem RB.once {b:List S}{G:Sg}{σ:St}(h:RB G aO b ρ σ (n8 (fun ρ σ=>RW G aO (.bool true) b 999 ρ σ (bW (fun ρ σ=>RB G aO rest ρ σ Q) Q)) (bW (fun ρ σ=>RB G aO rest ρ σ Q) Q))):RB G aO (.whl (.bool true) b :: rest) ρ σ Q:=.whl (.turn rfl h)
end
section
variable {k:Nat}{w s:List Nat}{c l lb bra ket:Int}{ex:ah}{r b q m:List Nat}{y:Bool}{p1 p2:Int}
theorem qL (k:Nat):aA ((GG (k+1)).Φ 30) [.obj 0] (st w c l lb bra ket (e9 y p1 p2)) fun v σ=>v = .bool (decide (p1≤c))∧σ=st w c l lb bra ket (e9 y p1 p2):=aw rfl (.ret rfl ⟨rfl,rfl⟩)
theorem qM (k:Nat):aA ((GG (k+1)).Φ 31) [.obj 0] (st w c l lb bra ket (e9 y p1 p2)) fun v σ=>v = .bool (decide (p2≤c))∧σ=st w c l lb bra ket (e9 y p1 p2):=aw rfl (.ret rfl ⟨rfl,rfl⟩)
noncomputable def Far (p:Bool) (w:List Nat) (l:Int) (lb bra ket:Int) (ex:ah):V→St→Prop:=fun v σ=>v = .bool p∧∃ c':Int,(p=true→0<c')∧σ=st w c' l lb bra ket ex
theorem Far.mk {p:Bool}{v:V}{σ:St}(h:v = .bool p) (c':Int) (hc:p=true→0<c') (e:σ=st w c' l lb bra ket ex):Far p w l lb bra ket ex v σ:=⟨h,c',hc,e⟩
theorem uB {t:Nat→Bool}{s:V}(k:Nat) (g:Grp s t) (hb:r.length<900):aA ((GG (k+1)).Φ 19) [.obj 0,s] (sP r b 0 bra ket ex) (Far (r.any t) (r.reverse++b) (r.length+b.length:Nat) 0 bra ket ex):=by
 refine aw rfl (.whl ?_)
 have loop:∀ (r b:List Nat) (m:Nat) (w0:List Nat) (l0:Int) (p0:Bool),r.length<m→w0=r.reverse++b→l0=(r.length+b.length:Nat)→p0=r.any t→RW (GG k) aO (.cmp .gt (.attr (.loc 0) 1) (.attr (.loc 0) 3)) [.ite (.cmp .isin (.idx (.attr (.loc 0) 0) (.bin .sub (.attr (.loc 0) 1) (.int 1))) (.loc 1)) [.ret (.bool true)] [],.augA (.loc 0) 1 .sub (.int 1)] m [some (.obj 0),some s] (sP r b 0 bra ket ex)
  (bW (fun ρ σ=>RB (GG k) aO [.ret (.bool false)] ρ σ (dN (Far p0 w0 l0 0 bra ket ex))) (dN (Far p0 w0 l0 0 bra ket ex))):=by
  intro r
  induction r with
  | nil=>intro b m w0 l0 p0 hm e1 e2 e3;cases m with
   | zero=>cases hm
   | succ m=>exact .done (cG rfl (by show ¬ ((0:Nat):Int)>0;decide)) (.ret rfl (.mk (by rw [e3];rfl) 0 (fun h=>by rw [e3] at h;injection h) (by rw [e1,e2];rfl)))
  | cons x r ih=>intro b m w0 l0 p0 hm e1 e2 e3;cases m with
   | zero=>contradiction
   | succ m =>
    refine .turn (cA rfl (by show ((r.length+1:Nat):Int)>0;exact Int.ofNat_lt.mpr (Nat.succ_pos _))) (.ite (lx g rfl rfl (lw r b x) rfl (.inl ⟨rfl,rfl⟩)) (fun h=>?_) fun h=>?_)
    ·have e4:p0=true:=by rw [e3,List.any_cons,h,Bool.true_or]
     exact .ret (v:=.bool true) rfl (.mk (by rw [e4]) ((x :: r).length:Nat) (fun zz=>by rw [List.length_cons];exact Int.ofNat_lt.mpr (Nat.succ_pos _)) (by rw [e1,e2]))
    ·refine .nil (.sub1 rfl rfl rfl ?_)
     rw [sK]
     refine .nil (ih _ _ _ _ _ (Nat.lt_of_succ_lt_succ hm) (by rw [e1];simp) (by rw [e2];simp;lia) (by rw [e3,List.any_cons,h,Bool.false_or]))
 exact loop r b 1000 _ _ _ (aaf (by assumption) (by decide)) rfl rfl rfl
theorem yK (k:Nat):aA ((GG (k+1)).Φ 20) [.obj 0,.str s] (sP r b 0 bra ket ex) fun v σ=>v = .bool (s.reverse.isPrefixOf r)∧∃ c':Int,σ=st (r.reverse++b) c' (r.length+b.length:Nat) 0 bra ket ex:=by
 have e:cut (r.reverse++b) (some (0:Int)) (some (r.length:Int))=r.reverse:=by
  rw [sN,List.take_left' (aad ..)]
 have e1:ev (GG k) [some (.obj 0),some (.str s)] (sP r b 0 bra ket ex) (.sm .ends (.slc (.attr (.loc 0) 0) (.attr (.loc 0) 3) (.attr (.loc 0) 1)) (.loc 1))=some (.bool (s.reverse.isPrefixOf r),sP r b 0 bra ket ex):=by
  refine lz (v:=.bool (f5 s (cut (r.reverse++b) (some (0:Int)) (some (r.length:Int))))) rfl ?_
  rw [e,show f5 s r.reverse=s.reverse.isPrefixOf r from ?_]
  rw [Bool.eq_iff_iff,aae]
  unfold f5
  rw [decide_eq_true_iff,← List.reverse_suffix,aaq]
  exact ⟨fun h=>List.suffix_iff_eq_drop.mpr h.2.symm,fun h=>⟨h.length_le,(List.suffix_iff_eq_drop.mp h).symm⟩⟩
 refine aw rfl (.ite e1 (fun h=>?_) fun h=>?_)
 ·exact .sub1 rfl rfl rfl (.ret (by rw [h];rfl) ⟨rfl,_,rfl⟩)
 ·exact .nil (.ret (by rw [h];rfl) ⟨rfl,_,rfl⟩)
theorem ir (k:Nat) {a b:Nat}(hx:cz ex) (hab:a≤b) (hb:b≤w.length) (hw:w.length≤2000):aA ((GG (k+3)).Φ 25) [.obj 0] (st w c w.length lb a b ex) fun v σ=>v = .none∧σ=st (w.take a++w.drop b) (kz c a b 0) (w.length+(0 - ((b:Int) - a))) lb a a ex:=by
 obtain ⟨v,σ',e,h1,h2⟩:=jl (m:=12) (ρ:=[some (.obj 0)]) (xs:=[.str []]) (by decide) hx rfl rfl (eN k (s:=[]) (c:=c) (lb:=lb) hx hab hb hw)
 refine aw rfl (.ret e ⟨h1,h2.trans ?_⟩)
 rw [List.append_nil,show (a:Int)+([]:List Nat).length=a from Int.add_zero _];rfl
theorem CV {a b n:Nat}(h:a<b):kz a a b n=a:=by
 unfold kz;rw [if_neg (by omega),if_neg (by lia)]
end
theorem RB.tryK {G:Sg}{n j:Nat}{b r:List S}{ρ:Rho}{σ:St}{Q:aP}(K:Rho→St→Prop) (h:RB G n b ρ σ (xa j (bW K Q))) (hK:∀ ρ σ,K ρ σ→RB G n r ρ σ Q):RB G n (.try1 b j :: r) ρ σ Q:=by
 refine .try1 (h.mono fun o ρ σ p=>?_)
 cases o with
 | next=>exact hK _ _ p
 | cont=>exact p
 | brk=>exact p
 | ret v=>exact p
 | exc i =>
  unfold xa at p ⊢
  dsimp only at p ⊢
  cases q:i==j with
  | true=>rw [q,if_pos rfl] at p;rw [if_pos rfl];exact hK _ _ p
  | false=>rw [q,if_neg aaj] at p;rw [if_neg aaj];exact p
noncomputable def Any (w:List Nat) (l:Int) (bra ket:Int) (ex:ah):St→Prop:=fun σ=>∃ c':Int,σ=st w c' l 0 bra ket ex
noncomputable def nv (x:Nat):Bool:=!vow x
noncomputable def nX (x:Nat):Bool:=!jM x
theorem gF:Grp (fA vs1) vow:=pJ vs1
theorem HG:Grp (fA vs2) jM:=pJ vs2
section
variable {k:Nat}{w s:List Nat}{c l lb bra ket:Int}{ex:ah}{r b q m:List Nat}{y:Bool}{p1 p2:Int}
theorem e8 {t:Nat→Bool}{x:Nat}(h:t x=true):inB t b (x :: r)=(true,r,x :: b):=if_pos h
theorem eW {t:Nat→Bool}{x:Nat}(h:t x=false):inB t b (x :: r)=(false,x :: r,b):=if_neg (ne_true_of_eq_false h)
theorem cD (t:Nat→Bool) (b r:List Nat):(inB t b r).2.1.reverse++(inB t b r).2.2=r.reverse++b∧(inB t b r).2.1.length+(inB t b r).2.2.length=r.length+b.length:=by
 cases r with
 | nil=>exact ⟨rfl,rfl⟩
 | cons x r =>
  cases h:t x with
  | true=>rw [e8 h];exact ⟨by simp,by simp;lia⟩
  | false=>rw [eW h];exact ⟨rfl,rfl⟩
theorem jO {w:List Nat}{n:Nat}(t:Nat→Bool) (b r:List Nat) (h1:r.reverse++b=w) (h2:r.length+b.length=n):Any w (n:Nat) bra ket ex (sP (inB t b r).2.1 (inB t b r).2.2 0 bra ket ex):=⟨_,bU ((cD t b r).1.trans h1) rfl (by rw [(cD t b r).2,h2])⟩
noncomputable def A1:List Nat→Bool
 | a :: b :: c :: _=>!jM a&&vow b&&!vow c
 | _=>false
noncomputable def A2:List Nat→Bool
 | [a,b]=>!vow a&&vow b
 | _=>false
theorem qN (b r:List Nat):A1 r=((inB nX b r).1&&((inB vow (inB nX b r).2.2 (inB nX b r).2.1).1&&(inB nv (inB vow (inB nX b r).2.2 (inB nX b r).2.1).2.2 (inB vow (inB nX b r).2.2 (inB nX b r).2.1).2.1).1)):=by
 cases r with
 | nil=>rfl
 | cons a r =>
  cases h:nX a with
  | false=>rw [eW h];rcases r with _ | ⟨b',_ | ⟨c,r⟩⟩<;>first | rfl | (show (nX a&&_&&_)=false;rw [h];rfl)
  | true =>
   rw [e8 h]
   cases r with
   | nil=>rfl
   | cons b' r =>
    cases h2:vow b' with
    | false=>rw [eW h2];cases r<;>first | rfl | (show (nX a&&vow b'&&_)=false;rw [h,h2];rfl)
    | true =>
     rw [e8 h2]
     cases r with
     | nil=>rfl
     | cons c r =>
      show (nX a&&vow b'&&nv c)=_
      rw [h,h2]
      cases h3:nv c with
      | false=>rw [eW h3];rfl
      | true=>rw [e8 h3];rfl
theorem qO (b r:List Nat):A2 r=((inB nv b r).1&&((inB vow (inB nv b r).2.2 (inB nv b r).2.1).1&&decide (¬ ((inB vow (inB nv b r).2.2 (inB nv b r).2.1).2.1.length:Int)>0))):=by
 cases r with
 | nil=>rfl
 | cons a r =>
  cases h:nv a with
  | false=>rw [eW h];rcases r with _ | ⟨b',_ | ⟨c,r⟩⟩<;>first | rfl | (show (nv a&&_)=false;rw [h];rfl)
  | true =>
   rw [e8 h]
   cases r with
   | nil=>rfl
   | cons b' r =>
    cases h2:vow b' with
    | false=>rw [eW h2];cases r<;>first | rfl | (show (nv a&&vow b')=false;rw [h,h2];rfl)
    | true =>
     rw [e8 h2]
     cases r with
     | nil=>show (nv a&&vow b')=_;rw [h,h2];rfl
     | cons c r=>rw [decide_eq_false (by show ¬ ¬ ((r.length+1:Nat):Int)>0;omega)];rfl
theorem qj (r:List Nat):aF r=(A1 r||A2 r||([112,97,115,116]:List Nat).reverse.isPrefixOf r):=by rfl
theorem oB {a b:Bool}(h:a=false):(a&&b)=false:=by rw [h];rfl
theorem jm {a b:Bool}(h:b=false):(a&&b)=false:=by rw [h,Bool.and_false]
theorem yL (k:Nat) (hx:cz ex):aA ((GG (k+2)).Φ 29) [.obj 0] (sP r b 0 bra ket ex) fun v σ=>v = .bool (aF r)∧Any (r.reverse++b) (r.length+b.length:Nat) bra ket ex σ:=by
 have bk:∀ {l c:Int},l - (l - c)=c:=fun {l c}=>by lia
 rw [qj]
 refine aw rfl (.once (.set rfl (.tryK (fun ρ' σ'=>ρ'=[some (.obj 0),some (.int (((r.length+b.length:Nat):Int) - r.length))]∧Any (r.reverse++b) (r.length+b.length:Nat) bra ket ex σ'∧A1 r=false) ?_ ?_)))
 ·refine .notM (cU k HG) (by decide) hx rfl rfl (fun h σ e=>.raise rfl ⟨rfl,e▸jO _ _ _ rfl rfl,(qN b r).trans (oB h)⟩) fun h1 σ e=>e▸.notM (eT k gF) (by decide) hx rfl rfl (fun h σ e=>.raise rfl ⟨rfl,e▸jO _ _ _ (cD _ _ _).1 (cD _ _ _).2,(qN b r).trans (jm (oB h))⟩) fun h2 σ e=>e▸.notM (cU k gF) (by decide) hx rfl rfl (fun h σ e=>.raise rfl ⟨rfl,e▸jO _ _ _ ((cD _ _ _).1.trans (cD _ _ _).1) ((cD _ _ _).2.trans (cD _ _ _).2),(qN b r).trans (jm (jm h))⟩) fun h3 σ e=>.brk (.ret rfl ⟨?_,e▸jO _ _ _ ((cD _ _ _).1.trans (cD _ _ _).1) ((cD _ _ _).2.trans (cD _ _ _).2)⟩)
  have h1:(inB nX b r).1=true:=h1
  have h3:(inB nv (inB vow (inB nX b r).2.2 (inB nX b r).2.1).2.2 (inB vow (inB nX b r).2.2 (inB nX b r).2.1).2.1).1=true:=h3
  have h2:(inB vow (inB nX b r).2.2 (inB nX b r).2.1).1=true:=h2
  rw [qN b,h1,h2,h3];rfl
 ·rintro ρ σ ⟨rfl,⟨c',rfl⟩,h0⟩
  rw [h0]
  refine .set1 rfl rfl (dK bk rfl) (.tryK (fun ρ' σ'=>ρ'=[some (.obj 0),some (.int (((r.length+b.length:Nat):Int) - r.length))]∧Any (r.reverse++b) (r.length+b.length:Nat) bra ket ex σ'∧A2 r=false) ?_ ?_)
  ·refine .notM (cU k gF) (by decide) hx rfl rfl (fun h σ e=>.raise rfl ⟨rfl,e▸jO _ _ _ rfl rfl,(qO b r).trans (oB h)⟩) fun h1 σ e=>e▸.notM (eT k gF) (by decide) hx rfl rfl (fun h σ e=>.raise rfl ⟨rfl,e▸jO _ _ _ (cD _ _ _).1 (cD _ _ _).2,(qO b r).trans (jm (oB h))⟩) fun h2 σ e=>e▸?_
   have h1:(inB nv b r).1=true:=h1
   have h2:(inB vow (inB nv b r).2.2 (inB nv b r).2.1).1=true:=h2
   refine .ite rfl (fun h3=>.raise rfl ⟨rfl,jO _ _ _ (cD _ _ _).1 (cD _ _ _).2,(qO b r).trans (jm (jm (decide_eq_false fun q=>q (of_decide_eq_true h3))))⟩) fun h3=>.nil (.brk (.ret rfl ⟨?_,jO _ _ _ (cD _ _ _).1 (cD _ _ _).2⟩))
   rw [qO b,h1,h2]
   show V.bool true=V.bool (false||decide _||_)
   have h3:¬ ((inB vow (inB nv b r).2.2 (inB nv b r).2.1).2.1.length:Int)>0:=of_decide_eq_false h3
   rw [decide_eq_true h3];rfl
  ·rintro ρ σ ⟨rfl,⟨c',rfl⟩,h1⟩
   rw [h1]
   refine .set1 rfl rfl (dK bk rfl) (.notM (yK k) (by decide) hx rfl rfl (fun h σ e=>.ret rfl ⟨by rw [h];rfl,e⟩) fun h σ e=>.brk (.ret rfl ⟨by rw [h];rfl,e⟩))
end
end Mine
end
section
open PySem PySem.W PyProof.Rows
open Mine.Eng
namespace Mine
noncomputable abbrev stR (r:List Nat) (c bra ket:Int) (ex:ah):St:=st r.reverse c r.length 0 bra ket ex
noncomputable def KK (t:List Row):List (List Nat×Int):=(back t).map bI
noncomputable def End (ex:ah) (q:List Nat):V→St→Prop:=fun zz σ=>∃ c bra ket:Int,σ=stR q c bra ket ex
section
variable {k:Nat}{w s:List Nat}{c l lb bra ket:Int}{ex:ah}{r b q m:List Nat}{y:Bool}{p1 p2 n d:Nat}
theorem kC (h:n≤r.length):sP (r.drop n) (r.take n).reverse 0 bra ket ex=stR r (r.drop n).length bra ket ex:=by
 refine bU ?_ rfl ?_
 ·rw [← List.reverse_append,List.take_append_drop]
 ·rw [aad,List.length_take,aal,Nat.min_eq_left h];omega
theorem iu {tbl:List Row}{a:Addr}(k:Nat) (h:(a,tbl)∈tbs) (hl:iG tbl (back tbl)=true) (hd:d≤r.length):aA ((GG (k+1)).Φ 22) [.obj 0,.list (aQ a tbl)] (stR r (r.drop d).length bra ket ex) fun v σ=>v = .int (mL (ae (KK tbl) (r.drop d)))∧σ=stR r (r.drop (d+fH (ae (KK tbl) (r.drop d)))).length bra ket ex:=by
 rw [← kC hd]
 refine (oA k h hl).mono ?_
 rintro v σ ⟨h1,h2⟩
 refine ⟨h1,h2.trans ?_⟩
 have:=sY (T:=KK tbl) (r:=r.drop d)
 rw [aal] at this
 rw [← kC (by omega),List.drop_drop]
 refine congrArg (fun z=>sP (r.drop (d+fH (ae (KK tbl) (r.drop d)))) z 0 bra ket ex) ?_
 show ((r.drop d).take (fH (ae (KK tbl) (r.drop d)))).reverse++(r.take d).reverse=_
 rw [← List.reverse_append,List.take_add]
theorem xh (hd:d≤r.length) {w:List Nat}{l:Nat}{σ:St}(h:Any ((r.drop d).reverse++(r.take d).reverse) ((r.drop d).length+(r.take d).reverse.length:Nat) bra ket ex σ):∃ c:Int,σ=stR r c bra ket ex:=by
 obtain ⟨c,rfl⟩:=h
 refine ⟨c,bU ?_ rfl ?_⟩
 ·rw [← List.reverse_append,List.take_append_drop]
 ·rw [aad,List.length_take,aal,Nat.min_eq_left hd];omega
theorem sZ (k:Nat) (hx:cz ex) (hd:d≤r.length):aA ((GG (k+2)).Φ 29) [.obj 0] (stR r (r.drop d).length bra ket ex) fun v σ=>v = .bool (aF (r.drop d))∧∃ c:Int,σ=stR r c bra ket ex:=by
 rw [← kC hd]
 exact (yL k hx).mono fun v σ h=>⟨h.1,xh (w:=[]) (l:=0) hd h.2⟩
theorem vw {t:Nat→Bool}{s:V}(k:Nat) (g:Grp s t) (hd:d≤r.length) (hr:r.length<900):aA ((GG (k+1)).Φ 19) [.obj 0,s] (stR r (r.drop d).length bra ket ex) fun v σ=>v = .bool ((r.drop d).any t)∧∃ c:Int,σ=stR r c bra ket ex:=by
 rw [← kC hd]
 refine (uB k g (by rw [aal];omega)).mono fun v σ h=>?_
 obtain ⟨h1,c,_,h2⟩:=h
 exact ⟨h1,xh (w:=[]) (l:=0) hd ⟨c,h2⟩⟩
noncomputable def s5 (t:Nat→Bool):List Nat→Bool
 | x :: _=>t x
 | []=>false
theorem oC {t:Nat→Bool}{σ:St}(hd:d≤r.length) (h2:σ=sP (inB t (r.take d).reverse (r.drop d)).2.1 (inB t (r.take d).reverse (r.drop d)).2.2 0 bra ket ex):(inB t (r.take d).reverse (r.drop d)).1=s5 t (r.drop d)∧(s5 t (r.drop d)=true→σ=stR r (r.drop (d+1)).length bra ket ex)∧∃ c:Int,σ=stR r c bra ket ex:=by
 refine ⟨?_,fun h=>?_,xh (w:=[]) (l:=0) hd (h2▸jO t _ _ rfl rfl)⟩
 ·cases r.drop d with
  | nil=>rfl
  | cons x r=>cases h:t x with
   | false=>exact (congrArg Prod.fst (eW h)).trans h.symm
   | true=>exact (congrArg Prod.fst (e8 h)).trans h.symm
 ·cases q:r.drop d with
  | nil=>rw [q] at h;injection h
  | cons x r' =>
   rw [q] at h h2
   have e:r.drop (d+1)=r':=by rw [← List.drop_drop,q];rfl
   have l:d+1≤r.length:=by
    have:(r.drop d).length=r'.length+1:=by rw [q];rfl
    rw [aal] at this;omega
   rw [h2,show inB t (r.take d).reverse (x :: r')=(true,r',x :: (r.take d).reverse) from e8 h,← kC l,e]
   have:r.take (d+1)=r.take d++[x]:=by rw [List.take_add,q];rfl
   rw [this,List.reverse_append];rfl
theorem BG {t:Nat→Bool}{s:V}(k:Nat) (g:Grp s t) (hd:d≤r.length):aA ((GG (k+1)).Φ 16) [.obj 0,s] (stR r (r.drop d).length bra ket ex) fun v σ=>v = .bool (s5 t (r.drop d))∧(s5 t (r.drop d)=true→σ=stR r (r.drop (d+1)).length bra ket ex)∧∃ c:Int,σ=stR r c bra ket ex:=by
 rw [← kC hd]
 exact (eT k g).mono fun v σ h=>⟨h.1.trans (congrArg V.bool (oC hd h.2).1),(oC hd h.2).2⟩
noncomputable abbrev hnv:List Nat→Bool:=s5 nv
theorem yM (k:Nat) (hd:d≤r.length):aA ((GG (k+1)).Φ 18) [.obj 0,fA vs1] (stR r (r.drop d).length bra ket ex) fun v σ=>v = .bool (hnv (r.drop d))∧(hnv (r.drop d)=true→σ=stR r (r.drop (d+1)).length bra ket ex)∧∃ c:Int,σ=stR r c bra ket ex:=by
 rw [← kC hd]
 exact (cU k gF).mono fun v σ h=>⟨h.1.trans (congrArg V.bool (oC (t:=nv) hd h.2).1),(oC (t:=nv) hd h.2).2⟩
theorem cJ (k:Nat) {s:List Nat}(hx:cz ex) (hn:n≤r.length) (hl:r.length+s.length≤2000):aA ((GG (k+2)).Φ 24) [.obj 0,.str s] (stR r c (r.drop n).length r.length ex) (End ex (s.reverse++r.drop n)):=by
 have:=eN (w:=r.reverse) (s:=s) (c:=c) (lb:=0) (a:=(r.drop n).length) (b:=r.length) (ex:=ex) k hx (by rw [aal];exact Nat.sub_le _ _) (by rw [aad];exact Nat.le_refl _) (by rw [aad];exact hl)
 rw [aad] at this
 refine this.mono fun v σ h=>⟨_,_,_,h.2.trans (bU ?_ rfl ?_)⟩
 ·rw [show r.reverse.drop r.length=[] from List.drop_of_length_le (by rw [aad];exact Nat.le_refl _),List.append_nil,List.reverse_append,aaq,aal]
  congr 1
  rw [List.take_reverse,List.reverse_inj];congr 1;exact Nat.sub_sub_self hn
 ·rw [List.length_append,aad,aal];lia
theorem BH (k:Nat) (hx:cz ex) (hn:n≤r.length) (h0:0<n) (hl:r.length≤2000):aA ((GG (k+3)).Φ 25) [.obj 0] (stR r (r.drop n).length (r.drop n).length r.length ex) fun v σ=>v = .none∧∃ bra ket:Int,σ=stR (r.drop n) (r.drop n).length bra ket ex:=by
 have:=ir (w:=r.reverse) (c:=(r.drop n).length) (lb:=0) (a:=(r.drop n).length) (b:=r.length) (ex:=ex) k hx (by rw [aal];exact Nat.sub_le _ _) (by rw [aad];exact Nat.le_refl _) (by rw [aad];exact hl)
 rw [aad] at this
 refine this.mono fun v σ h=>⟨h.1,_,_,h.2.trans (bU ?_ (CV (a:=(r.drop n).length) (b:=r.length) (n:=0) (by rw [aal];omega)) ?_)⟩
 ·rw [show r.reverse.drop r.length=[] from List.drop_of_length_le (by rw [aad];exact Nat.le_refl _),List.append_nil,aal,List.take_reverse,List.reverse_inj];congr 1;exact Nat.sub_sub_self hn
 ·rw [aal];omega
theorem fK (k:Nat) (hx:cz ex) (hn:n≤r.length) (hl:r.length≤2000):aA ((GG (k+3)).Φ 25) [.obj 0] (stR r c (r.drop n).length r.length ex) (End ex (r.drop n)):=by
 have:=ir (w:=r.reverse) (c:=c) (lb:=0) (a:=(r.drop n).length) (b:=r.length) (ex:=ex) k hx (by rw [aal];exact Nat.sub_le _ _) (by rw [aad];exact Nat.le_refl _) (by rw [aad];exact hl)
 rw [aad] at this
 refine this.mono fun v σ h=>⟨_,_,_,h.2.trans (bU ?_ rfl ?_)⟩
 ·rw [show r.reverse.drop r.length=[] from List.drop_of_length_le (by rw [aad];exact Nat.le_refl _),List.append_nil,aal,List.take_reverse,List.reverse_inj];congr 1;exact Nat.sub_sub_self hn
 ·rw [aal];omega
theorem iv {p:Nat} : decide ((p:Int)≤((r.drop n).length:Nat))=Eng.inR p r n:=by
 unfold Eng.inR
 rw [aal,Bool.eq_iff_iff,decide_eq_true_iff,decide_eq_true_iff];omega
noncomputable def hd (ch:Nat):List Nat→Bool
 | x :: _=>x==ch
 | []=>false
theorem gX {G:Sg}{ρ:Rho}{ch:Nat}(hP:G.P=P2) (h0:bo ρ) (hd':d≤r.length):ev G ρ (stR r (r.drop d).length bra ket ex) (.disj [.cmp .le (.attr (.loc 0) 1) (.attr (.loc 0) 3),.cmp .ne (.idx (.attr (.loc 0) 0) (.bin .sub (.attr (.loc 0) 1) (.int 1))) (.str [ch])])=some (.bool (!hd ch (r.drop d)),stR r (r.drop d).length bra ket ex):=by
 rw [← kC hd']
 generalize (r.take d).reverse=b
 have at_:∀ a v,cL P2 (sP (r.drop d) b 0 bra ket ex) (.obj 0) a=some v→ev G ρ (sP (r.drop d) b 0 bra ket ex) (.attr (.loc 0) a)=some (v,sP (r.drop d) b 0 bra ket ex):=fun a v h=>by
  show (ev G ρ _ (.loc 0)).bind _=_
  rw [dJ h0];show (cL G.P _ _ a).map _=_
  rw [hP,h];rfl
 generalize r.drop d=r at at_
 have h1:=at_ 1 _ rfl
 have h3:=at_ 3 _ rfl
 have hw:=at_ 0 _ rfl
 have c1:ev G ρ (sP r b 0 bra ket ex) (.cmp .le (.attr (.loc 0) 1) (.attr (.loc 0) 3))=some (.bool (decide ((r.length:Int)≤0)),sP r b 0 bra ket ex):=by
  show (ev G ρ _ (.attr (.loc 0) 1)).bind _=_
  rw [h1];show (ev G ρ _ (.attr (.loc 0) 3)).bind _=_
  rw [h3];rfl
 show ((ev G ρ (sP r b 0 bra ket ex) (.cmp .le (.attr (.loc 0) 1) (.attr (.loc 0) 3))).bind _).map _=_
 rw [c1]
 cases r with
 | nil=>rfl
 | cons x r =>
  rw [decide_eq_false ky]
  show ((ev G ρ _ (.cmp .ne _ _)).bind _).map _=_
  have c2:ev G ρ (sP (x :: r) b 0 bra ket ex) (.cmp .ne (.idx (.attr (.loc 0) 0) (.bin .sub (.attr (.loc 0) 1) (.int 1))) (.str [ch]))=some (.bool (!([x]==[ch])),sP (x :: r) b 0 bra ket ex):=by
   show (ev G ρ _ (.idx _ _)).bind _=_
   rw [bJ (lw r b x) hw (dc h1 rfl)];rfl
  rw [c2]
  have:([x]==[ch])=(x==ch):=by show (x==ch&&true)=_;rw [Bool.and_true]
  rw [this]
  show _=some (V.bool (!(x==ch)),_)
  cases x==ch<;>rfl
theorem fW {α β:Type}(f:α→β):∀ (l:List (List Nat×α)) (r:List Nat),ae (l.map fun e=>(e.1,f e.2)) r=(ae l r).map fun e=>(e.1,f e.2)
 | [],r=>rfl
 | e :: l,r=>by
  rw [List.map_cons]
  unfold ae
  rw [fW f l r]
  cases ae l r with
  | none=>show (if _ then _ else _)=Option.map _ (if _ then _ else _);split<;>rfl
  | some g=>show (if _ then _ else _)=Option.map _ (if _ then _ else _);split<;>rfl
end
noncomputable def xi:List (Int×List Nat)→List S→List S
 | [],f=>f
 | e :: l,f=>[.ite (.cmp .eq (.loc 1) (.int e.1)) [.expr (.meth (.loc 0) 24 [.str e.2])] (xi l f)]
noncomputable def sc2:List (Int×List Nat):=[(1,[116,105,111,110]),(2,[101,110,99,101]),(3,[97,110,99,101]),(4,[97,98,108,101]),(5,[101,110,116]),(6,[105,122,101]),(7,[97,116,101]),(8,[97,108]),(9,[102,117,108]),(10,[111,117,115]),(11,[105,118,101]),(12,[98,108,101]),(13,[111,103])]
noncomputable def sc3:List (Int×List Nat):=[(1,[116,105,111,110]),(2,[97,116,101]),(3,[97,108]),(4,[105,99])]
noncomputable def pN (v:Int):Eng.Act:=match sc2.lookup v with
 | some s=>.to s
 | none=>if v=14 then .ogi else if v=15 then .to [108,101,115,115] else .li
noncomputable def s6 (v:Int):Bool×List Nat:=match sc3.lookup v with
 | some s=>(false,s)
 | none=>if v=5 then (false,[]) else (true,[])
theorem GY:t2=(KK tb7).map fun e=>(e.1,pN e.2):=by kernel_rfl
theorem GZ:t3=(KK tb8).map fun e=>(e.1,s6 e.2):=by decide +kernel
theorem G0:t4=(KK tb9).map fun e=>(e.1,e.2==1):=by decide +kernel
theorem CW:sR=(KK tb1).map fun e=>(e.1,()):=by decide +kernel
theorem E8:t1a=(KK tb2).map fun e=>(e.1,if e.2 = -1 then 0 else e.2.toNat):=by decide +kernel
theorem eE {t:List Row}(h:t∈[tb1,tb2,tb3,tb4,tb5,tb6,tb7,tb8,tb9,jH]):iG t (back t)=true:=aab.mp Ay t h
theorem lP {l:List (Int×List Nat)}{v:Int}{s:List Nat} : l.lookup v=some s→(v,s)∈l:=by
 induction l with
 | nil=>intro h;injection h
 | cons e l ih =>
  intro h
  rw [List.lookup_cons] at h
  cases q:v==e.1 with
  | true=>rw [q] at h;obtain rfl:=aaa h;rw [eq_of_beq q];exact aam
  | false=>rw [q] at h;exact aag _ (ih h)
theorem CX {v:Int}{s:List Nat}(h:sc2.lookup v=some s):s.length≤10:=by
 have:=lP h
 exact of_decide_eq_true (aab.mp (show (sc2.all fun e=>decide (e.2.length≤10))=true by decide) _ this)
section
variable {k n:Nat}{w s:List Nat}{c bra ket:Int}{ex:ah}{r:List Nat}{y:Bool}{p1 p2:Nat}{rest:List S}{ρ:Rho}{Q:aP}{σ:St}
theorem RB.callM {k n m:Nat}{r:List S}{ρ:Rho}{w:List Nat}{c l lb bra ket:Int}{ex:ah}{Q:aP}{xs:List X}{vs:List V}{P:V→St→Prop}(g:aA ((GG k).Φ (m+12)) (.obj 0 :: vs) (st w c l lb bra ket ex) P) (hm:Nat.blt m 30=true) (hx:cz ex) (h0:bo ρ) (ea:evs (GG k) ρ (st w c l lb bra ket ex) xs=some (vs,st w c l lb bra ket ex)) (h:∀ v σ,P v σ→RB (GG k) n r ρ σ Q):RB (GG k) n (.expr (.meth (.loc 0) (m+12) xs) :: r) ρ (st w c l lb bra ket ex) Q:=.call (aan hm) hx h0 ea g h
theorem pO {G:Sg}{n:Nat}{f:List S}{v:Int}(hv:ρ[1]? = some (some (.int v))):∀ (l:List (Int×List Nat)) (Q:aP),(∀ s,l.lookup v=some s→RB G n [.expr (.meth (.loc 0) 24 [.str s])] ρ σ Q)→(l.lookup v=none→RB G n f ρ σ Q)→RB G n (xi l f) ρ σ Q
 | [],Q,_,h2=>h2 rfl
 | e :: l,Q,h1,h2=>by
  have nil:∀ o ρ σ,Q o ρ σ→bW (fun ρ σ=>RB G n [] ρ σ Q) Q o ρ σ:=fun o ρ σ h=>by cases o<;>first | exact .nil h | exact h
  have ec:ev G ρ σ (.cmp .eq (.loc 1) (.int e.1))=some (.bool (v==e.1),σ):=by
   show (ev G ρ σ (.loc 1)).bind _=_
   rw [fJ hv];rfl
  refine .ite ec (fun h=>?_) fun h=>?_
  ·exact (h1 e.2 (by rw [List.lookup_cons,h])).mono nil
  ·refine (pO hv l Q (fun s q=>h1 s (by rw [List.lookup_cons,h];exact q)) (fun q=>h2 (by rw [List.lookup_cons,h];exact q))).mono nil
theorem RB.app {G:Sg}{n:Nat}{r:List S} : ∀ (b:List S) (ρ:Rho) (σ:St),RB G n b ρ σ (bW (fun ρ σ=>RB G n r ρ σ Q) Q)→RB G n (b++r) ρ σ Q
 | [],ρ,σ,⟨o,ρ1,σ1,e,h⟩=>by (injection e with hE;injection hE with hA hE;injection hE with hB hC;subst hA;subst hB;subst hC);exact h
 | t :: b,ρ,σ,⟨o,ρ1,σ1,e,h⟩=>by
  have e:(exS G n t ρ σ).bind (fun o=>wm o (exB G n b o.2.1 o.2.2))=some (o,ρ1,σ1):=e
  refine .cons ?_
  cases q:exS G n t ρ σ with
  | none=>rw [q] at e;injection e
  | some p =>
   rw [q] at e
   obtain ⟨o',ρ',σ'⟩:=p
   refine ⟨o',ρ',σ',q,?_⟩
   cases o' with
   | next=>exact RB.app b ρ' σ' ⟨o,ρ1,σ1,e,h⟩
   | _=>(injection e with hE;injection hE with hA hE;injection hE with hB hC;subst hA;subst hB;subst hC);exact h
theorem lG {tbl:List Row}{a:Addr}{j:Nat}(hT:(a,tbl)∈tbs) (ok:iG tbl (back tbl)=true) (hx:cz ex) (hc:(P2.cat[j]?).map (fun e=>e.2.2.2)=some (.list (aQ a tbl))) (hz:((KK tbl).all fun e=>!(e.2==0))=true)
 (h0:ae (KK tbl) r=none→∀ bra ket:Int,Q (.ret (.bool false)) (some (.obj 0) :: some (.int 0) :: ρ) (stR r r.length bra ket ex))
 (h1:∀ x,ae (KK tbl) r=some x→x∈KK tbl→x.1 <+: r→RB (GG (k+1)) aO rest (some (.obj 0) :: some (.int x.2) :: ρ) (stR r (r.drop x.1.length).length (r.drop x.1.length).length r.length ex) Q) :
 RB (GG (k+1)) aO (.setA (.loc 0) 5 (.attr (.loc 0) 1) :: .set 1 (.meth (.loc 0) 22 [.cat j]) :: .ite (.cmp .eq (.loc 1) (.int 0)) [.ret (.bool false)] [] :: .setA (.loc 0) 4 (.attr (.loc 0) 1) :: rest) (some (.obj 0) :: none :: ρ) (stR r r.length bra ket ex) Q:=by
 have ec:evs (GG (k+1)) (some (.obj 0) :: none :: ρ) (stR r r.length bra r.length ex) [.cat j]=some ([.list (aQ a tbl)],stR r r.length bra r.length ex):=by
  refine fG ?_ rfl
  show (P2.cat[j]?).map _=_
  cases h:P2.cat[j]? with
  | none=>rw [h] at hc;injection hc
  | some e=>rw [h] at hc;exact congrArg (Option.map (·,_)) hc
 refine .set5 rfl rfl rfl (.setM (iu (d:=0) k hT ok (Nat.zero_le _)) (by decide) hx rfl ec ?_)
 rintro v σ ⟨rfl,rfl⟩
 rw [Nat.zero_add,List.drop_zero]
 cases hb:ae (KK tbl) r with
 | none=>exact .iteT rfl (.ret rfl (h0 hb _ _))
 | some x =>
  obtain ⟨hm,hp⟩:=aa hb
  have nz:(x.2==0)=false:=by have:=aab.mp hz x hm;rw [Bool.not_eq_true'] at this;exact this
  exact .skip (gN (p:=x.2==0) rfl nz) (.set4 rfl rfl rfl (h1 x hb hm hp))
theorem End.of {q q':List Nat}{v v':V}(h:End ex q v σ) (e:q=q'):End ex q' v' σ:=e▸h
theorem End.same {v:V} : End ex r v (stR r c bra ket ex):=⟨_,_,_,rfl⟩
theorem End.to {q q':List Nat}{v:V}(h:End ex q v σ) (e:q=q'):End ex q' .none σ:=e▸h
theorem cB {p:Bool}(h:(!p)=true):p=false:=by cases p<;>first | rfl | injection h
theorem Az (k:Nat) (hr:r.length≤1900):aA ((GG (k+4)).Φ 35) [.obj 0] (stR r r.length bra ket (e9 y p1 p2)) (End (e9 y p1 p2) (aS p1 r)):=by
 generalize hq:aS p1 r=z
 have hb2:∀ {x},ae (KK tb7) r=x→ae t2 r=x.map fun e=>(e.1,pN e.2):=fun {x} h=>by rw [GY,fW,h]
 refine aw rfl (lG (k:=k+2) (tbl:=tb7) (a:=491) (by decide) (eE (by decide)) ok9 rfl (by decide) (fun h bra ket=>End.to (End.same (v:=.none)) ?_) fun x h hm hp=>?_)
 ·rw [← hq];unfold aS;rw [hb2 h];rfl
 have hn:=hp.length_le
 have hq:(if Eng.inR p1 r x.1.length then (match pN x.2 with
  | .to t=>t.reverse++r.drop x.1.length
  | .ogi=>if (r.drop 3).head?==some 108 then r.drop 1 else r
  | .li=>if bC (ks "cdeghkmnrt") (r.drop 2) then r.drop 2 else r) else r)=z:=by rw [← hq];unfold aS;rw [hb2 h];rfl
 rw [← iv] at hq
 refine .notM (qL (k+2)) (by decide) ok9 rfl rfl (fun q σ e=>?_) fun q σ e=>?_
 ·rw [q] at hq;subst e;exact .ret rfl (End.to (End.same (v:=.none)) hq)
 rw [q,if_pos rfl] at hq
 subst e
 unfold pN at hq
 have hr2:∀ {n:Nat},n≤10→r.length+n≤2000:=fun h=>aaf (Nat.add_le_add hr h) (by decide)
 show RB _ _ (xi sc2 [.ite (.cmp .eq (.loc 1) (.int 14)) [.ite (.disj [.cmp .le (.attr (.loc 0) 1) (.attr (.loc 0) 3),.cmp .ne (.idx (.attr (.loc 0) 0) (.bin .sub (.attr (.loc 0) 1) (.int 1))) (.str [108])]) [.ret (.bool false)] [],
  .augA (.loc 0) 1 .sub (.int 1),.expr (.meth (.loc 0) 24 [.str [111,103]])] [.ite (.cmp .eq (.loc 1) (.int 15)) [.expr (.meth (.loc 0) 24 [.str [108,101,115,115]])] [.ite (.not (.meth (.loc 0) 16 [.cat 3])) [.ret (.bool false)] [],.expr (.meth (.loc 0) 25 [])]]]++[.ret (.bool true)]) _ _ _
 refine .app _ _ _ (pO (v:=x.2) rfl _ _ (fun s hs=>?_) fun hs=>?_)<;>rw [hs] at hq
 ·exact .callM (cJ (k+1) ok9 hn (hr2 (CX hs))) rfl ok9 rfl rfl fun v σ h=>.nil (.ret rfl (End.to h hq))
 ·refine .ite (p:=x.2==14) rfl (fun h=>?_) fun h=>?_
  ·have h:=eq_of_beq h
   have e1:x.1=[105,103,111]:=by
    have:=aab.mp (show ((KK tb7).all fun e=>!(e.2==14)||e.1==[105,103,111])=true by decide) x hm
    rw [h] at this;exact eq_of_beq this
   rw [if_pos h] at hq
   rw [e1] at hp hn ⊢
   obtain ⟨t,rfl⟩:=hp
   have hq:(if hd 108 t=true then [103,111]++t else [105,103,111]++t)=z:=by rw [show hd 108 t=(t.head?==some 108) by cases t<;>rfl];exact hq
   refine .ite (gX rfl rfl hn) (fun q=>?_) fun q=>?_
   ·rw [show hd 108 t=false from cB q] at hq
    exact .ret rfl (End.to (End.same (v:=.none)) hq)
   ·rw [show hd 108 t=true from dq q] at hq
    refine .nil (.sub1 rfl rfl rfl (.callM (cJ (n:=3) (k+1) ok9 hn (hr2 (by decide))) rfl ok9 rfl rfl fun v σ h=>?_))
    repeat (refine RB.nil ?_)
    exact .ret rfl (End.to h hq)
  ·have h:=beq_eq_false_iff_ne.mp h
   rw [if_neg h] at hq
   refine .ite (p:=x.2==15) rfl (fun h2=>?_) fun h2=>?_
   ·rw [if_pos (eq_of_beq h2)] at hq
    refine .callM (cJ (k+1) ok9 hn (hr2 (by decide))) rfl ok9 rfl rfl fun v σ h=>?_
    repeat (refine RB.nil ?_)
    exact .ret rfl (End.to h hq)
   ·have h2:=beq_eq_false_iff_ne.mp h2
    rw [if_neg h2] at hq
    have e1:x.1=[105,108]:=by
     have:=aab.mp (show ((KK tb7).all fun e=>(sc2.lookup e.2).isSome||e.2==14||e.2==15||e.1==[105,108])=true by decide) x hm
     rw [hs,beq_eq_false_iff_ne.mpr h,beq_eq_false_iff_ne.mpr h2] at this;exact eq_of_beq this
    rw [e1] at hp hn ⊢
    obtain ⟨t,rfl⟩:=hp
    have e3:bC (ks "cdeghkmnrt") t=(match t with | x :: _=>vs3.contains x | []=>false):=by
     rw [show ks "cdeghkmnrt"=vs3 by decide +kernel];cases t<;>rfl
    have hq:(if bC (ks "cdeghkmnrt") t=true then t else [105,108]++t)=z:=hq
    rw [e3] at hq
    refine .notM (BG (r:=[105,108]++t) (d:=2) (bra:=(t.length:Nat)) (ket:=([105,108]++t).length) (ex:=e9 y p1 p2) (k+2) (pJ vs3) hn) (by decide) ok9 rfl rfl (fun q σ e=>?_) fun q σ e=>?_<;>obtain ⟨_,c,rfl⟩:=e
    ·rw [show (match t with | x :: _=>vs3.contains x | []=>false)=false from q] at hq
     exact .ret rfl (End.to (End.same (v:=.none)) hq)
    ·rw [show (match t with | x :: _=>vs3.contains x | []=>false)=true from q] at hq
     refine .callM (fK (n:=2) k ok9 hn (hr2 (Nat.zero_le _))) rfl ok9 rfl rfl fun v σ h=>?_
     repeat (refine RB.nil ?_)
     exact .ret rfl (End.to h hq)
end
section
variable {k n:Nat}{w s:List Nat}{c bra ket:Int}{ex:ah}{r:List Nat}{y:Bool}{p1 p2:Nat}{rest:List S}{ρ:Rho}{Q:aP}{σ:St}
theorem AA (k:Nat) (hr:r.length≤1900):aA ((GG (k+4)).Φ 36) [.obj 0] (stR r r.length bra ket (e9 y p1 p2)) (End (e9 y p1 p2) (bc p1 p2 r)):=by
 generalize hq:bc p1 p2 r=z
 have hb2:∀ {x},ae (KK tb8) r=x→ae t3 r=x.map fun e=>(e.1,s6 e.2):=fun {x} h=>by rw [GZ,fW,h]
 refine aw rfl (lG (k:=k+2) (tbl:=tb8) (a:=567) (by decide) (eE (by decide)) ok9 rfl (by decide) (fun h bra ket=>End.to (End.same (v:=.none)) ?_) fun x h hm hp=>?_)
 ·rw [← hq];unfold bc;rw [hb2 h];rfl
 have hn:=hp.length_le
 have hq:(if (Eng.inR p1 r x.1.length&&(!(s6 x.2).1||Eng.inR p2 r x.1.length))=true then (s6 x.2).2.reverse++r.drop x.1.length else r)=z:=by rw [← hq];unfold bc;rw [hb2 h];rfl
 rw [← iv] at hq
 refine .notM (qL (k+2)) (by decide) ok9 rfl rfl (fun q σ e=>?_) fun q σ e=>?_
 ·rw [q] at hq;subst e;exact .ret rfl (End.to (End.same (v:=.none)) hq)
 rw [q,Bool.true_and] at hq
 subst e
 unfold s6 at hq
 show RB _ _ (xi sc3 [.ite (.cmp .eq (.loc 1) (.int 5)) [.expr (.meth (.loc 0) 25 [])] [.ite (.not (.meth (.loc 0) 31 [])) [.ret (.bool false)] [],.expr (.meth (.loc 0) 25 [])]]++[.ret (.bool true)]) _ _ _
 refine .app _ _ _ (pO (v:=x.2) rfl _ _ (fun s hs=>?_) fun hs=>?_)<;>rw [hs] at hq
 ·have:s.length≤10:=of_decide_eq_true (aab.mp (show (sc3.all fun e=>decide (e.2.length≤10))=true by decide) _ (lP hs))
  exact .callM (cJ (k+1) ok9 hn (aaf (Nat.add_le_add hr this) (by decide))) rfl ok9 rfl rfl fun v σ h=>.nil (.ret rfl (End.to h hq))
 ·have hr:=aaf hr (by decide:1900≤2000)
  refine .ite (p:=x.2==5) rfl (fun h=>?_) fun h=>?_
  ·rw [if_pos (eq_of_beq h)] at hq
   refine .callM (fK k ok9 hn hr) rfl ok9 rfl rfl fun v σ h=>?_
   repeat (refine RB.nil ?_)
   exact .ret rfl (End.to h hq)
  ·rw [if_neg (beq_eq_false_iff_ne.mp h)] at hq
   refine .notM (qM (k+2)) (by decide) ok9 rfl rfl (fun q σ e=>?_) fun q σ e=>?_<;>rw [iv] at q<;>rw [q] at hq<;>subst e
   ·exact .ret rfl (End.to (End.same (v:=.none)) hq)
   ·refine .callM (fK k ok9 hn hr) rfl ok9 rfl rfl fun v σ h=>?_
    repeat (refine RB.nil ?_)
    exact .ret rfl (End.to h hq)
theorem gY {ch:Nat}{q:List Nat}(h:hd ch q=true):∃ l,q=ch :: l:=by
 cases q with
 | nil=>injection h
 | cons a l=>exact ⟨l,by rw [eq_of_beq (show (a==ch)=true from h)]⟩
theorem AB (k:Nat) (hr:r.length≤1900):aA ((GG (k+4)).Φ 37) [.obj 0] (stR r r.length bra ket (e9 y p1 p2)) (End (e9 y p1 p2) (bp p2 r)):=by
 generalize hq:bp p2 r=z
 have hb2:∀ {x},ae (KK tb9) r=x→ae t4 r=x.map fun e=>(e.1,e.2==1):=fun {x} h=>by rw [G0,fW (fun v:Int=>v==1),h]
 refine aw rfl (lG (k:=k+2) (tbl:=tb9) (a:=595) (by decide) (eE (by decide)) ok9 rfl (by decide) (fun h bra ket=>End.to (End.same (v:=.none)) ?_) fun x h hm hp=>?_)
 ·rw [← hq];unfold bp;rw [hb2 h];rfl
 have hn:=hp.length_le
 have hq:(if (Eng.inR p2 r x.1.length&&((x.2==1)||bC [115,116] (r.drop 3)))=true then r.drop x.1.length else r)=z:=by rw [← hq];unfold bp;rw [hb2 h];rfl
 rw [← iv] at hq
 have hr:=aaf hr (by decide:1900≤2000)
 refine .notM (qM (k+2)) (by decide) ok9 rfl rfl (fun q σ e=>?_) fun q σ e=>?_
 ·rw [q] at hq;subst e;exact .ret rfl (End.to (End.same (v:=.none)) hq)
 rw [q,Bool.true_and] at hq
 subst e
 refine .ite (p:=x.2==1) rfl (fun h=>?_) fun h=>?_<;>rw [h] at hq
 ·exact .callM (fK k ok9 hn hr) rfl ok9 rfl rfl fun v σ h=>.nil (.ret rfl (End.to h hq))
 ·have e1:x.1=[110,111,105]:=by
   have:=aab.mp (show ((KK tb9).all fun e=>(e.2==1)||e.1==[110,111,105])=true by decide) x hm
   rw [h] at this;exact eq_of_beq this
  rw [e1] at hp hn hq ⊢
  obtain ⟨t,rfl⟩:=hp
  have hin:bC [115,116] t=(hd 115 t||hd 116 t):=by
   cases t with
   | nil=>rfl
   | cons a l=>show (match a==115 with | true=>true | false=>(match a==116 with | true=>true | false=>false))=(a==115||a==116);cases a==115<;>cases a==116<;>rfl
  have hq:(if bC [115,116] t=true then t else [110,111,105]++t)=z:=hq
  rw [hin] at hq
  have fin:∀ c:Int,(hd 115 t||hd 116 t)=true→RB (GG (k+3)) aO [.expr (.meth (.loc 0) 25 [])] [some (.obj 0),some (.int x.2)] (stR ([110,111,105]++t) c t.length ([110,111,105]++t).length (e9 y p1 p2)) (bW (fun ρ σ=>RB (GG (k+3)) aO [.ret (.bool true)] ρ σ (dN (End (e9 y p1 p2) z))) (dN (End (e9 y p1 p2) z))):=fun c hh =>
   .callM (fK (n:=3) k ok9 hn hr) rfl ok9 rfl rfl fun v σ h=>.nil (.ret rfl (End.to h (by rw [← hq,hh];rfl)))
  refine .once (.tryK (fun ρ' σ'=>ρ'=[some (.obj 0),some (.int x.2)]∧σ'=stR ([110,111,105]++t) t.length t.length ([110,111,105]++t).length (e9 y p1 p2)∧hd 115 t=false) ?_ ?_)
  ·refine .ite (gX (d:=3) rfl rfl hn) (fun q=>.raise rfl ⟨rfl,rfl,cB q⟩) fun q=>.nil (.sub1 rfl rfl rfl (.brk (fin _ ?_)))
   rw [show hd 115 t=true from dq q];rfl
  ·rintro ρ σ ⟨rfl,rfl,h1⟩
   refine .ite (gX (d:=3) rfl rfl hn) (fun q=>.ret rfl (End.to (End.same (v:=.none)) ?_)) fun q=>.nil (.sub1 rfl rfl rfl (.brk (fin _ ?_)))
   ·rw [← hq,h1,show hd 116 t=false from cB q];rfl
   ·rw [h1,show hd 116 t=true from dq q];rfl
theorem yN:KK jH=[([101],1),([108],2)]:=rfl
theorem xj (h:ae (KK jH) r=none):bT p1 p2 r=r:=by
 rw [yN] at h
 have:=bl h
 have h1:=this _ aam
 have h2:=this _ (aag _ aam)
 unfold bT
 split
 ·exact absurd (List.cons_prefix_cons.mpr ⟨rfl,List.nil_prefix⟩) h1
 ·exact absurd (List.cons_prefix_cons.mpr ⟨rfl,List.nil_prefix⟩) h2
 ·rfl
theorem xk {a p:Nat}{t:List Nat} : Eng.inR p ([a]++t) 1=decide ((p:Int)≤(t.length:Nat)):=(iv (r:=[a]++t) (n:=1)).symm
theorem HH {t z:List Nat}(k:Nat) (ht:t.length≤1900) (hq:(if (Eng.inR p2 ([101]++t) 1||(Eng.inR p1 ([101]++t) 1&&!aF t))=true then t else [101]++t)=z) :
 RB (GG (k+3)) aO (jG.drop 4) [some (.obj 0),some (.int 1),none] (stR ([101]++t) t.length t.length ([101]++t).length (e9 y p1 p2)) (dN (End (e9 y p1 p2) z)):=by
 have hn:1≤([101]++t:List Nat).length:=Nat.le_add_left 1 _
 rw [xk,xk] at hq
 have fin:∀ (c:Int) (v:Option V),t=z→RB (GG (k+3)) aO [.expr (.meth (.loc 0) 25 [])] [some (.obj 0),some (.int 1),v] (stR ([101]++t) c t.length ([101]++t).length (e9 y p1 p2)) (bW (fun ρ σ=>RB (GG (k+3)) aO [.ret (.bool true)] ρ σ (dN (End (e9 y p1 p2) z))) (dN (End (e9 y p1 p2) z))):=fun c v hh =>
  .callM (fK (n:=1) k ok9 hn (aaf (Nat.succ_le_succ ht) (by decide))) rfl ok9 rfl rfl fun v σ h=>.nil (.ret rfl (End.to h hh))
 refine .iteT rfl (.once (.tryK (fun ρ' σ'=>ρ'=[some (.obj 0),some (.int 1),none]∧σ'=stR ([101]++t) t.length t.length ([101]++t).length (e9 y p1 p2)∧(if (decide ((p1:Int)≤(t.length:Nat))&&!aF t)=true then t else [101]++t)=z) ?_ ?_))
 ·refine .notM (qM (k+2)) (by decide) ok9 rfl rfl (fun q σ e=>?_) fun q σ e=>?_<;>rw [q] at hq
  ·exact .raise rfl ⟨rfl,e,hq⟩
  ·exact e▸.brk (fin _ _ hq)
 ·rintro ρ σ ⟨rfl,rfl,hq⟩
  refine .notM (qL (k+2)) (by decide) ok9 rfl rfl (fun q σ e=>?_) fun q σ e=>?_<;>rw [q] at hq<;>subst e
  ·exact .ret rfl (End.to (End.same (v:=.none)) hq)
  refine .set rfl (.tryK (fun ρ' σ'=>ρ'=[some (.obj 0),some (.int 1),some (.int ((([101]++t:List Nat).length:Int) - t.length))]∧(∃ c:Int,σ'=stR ([101]++t) c t.length ([101]++t).length (e9 y p1 p2))∧t=z) ?_ ?_)
  ·refine .notM (sZ (r:=[101]++t) (d:=1) (k+1) ok9 hn) (by decide) ok9 rfl rfl (fun q σ e=>?_) fun q σ e=>?_<;>rw [show aF t=_ from q] at hq
   ·exact .raise rfl ⟨rfl,e,hq⟩
   ·obtain ⟨c,rfl⟩:=e
    exact .ret rfl (End.to (End.same (v:=.none)) hq)
  ·rintro ρ σ ⟨rfl,⟨c,rfl⟩,h3⟩
   exact .set1 rfl rfl rfl (.brk (fin _ _ h3))
theorem HI {t z:List Nat}(k:Nat) (ht:t.length≤1900) (hq:(if (Eng.inR p2 ([108]++t) 1&&hd 108 t)=true then t else [108]++t)=z) :
 RB (GG (k+3)) aO (jG.drop 4) [some (.obj 0),some (.int 2),none] (stR ([108]++t) t.length t.length ([108]++t).length (e9 y p1 p2)) (dN (End (e9 y p1 p2) z)):=by
 have hn:1≤([108]++t:List Nat).length:=Nat.le_add_left 1 _
 rw [xk] at hq
 refine .iteF rfl (.notM (qM (k+2)) (by decide) ok9 rfl rfl (fun q σ e=>?_) fun q σ e=>?_)<;>rw [q] at hq<;>subst e
 ·exact .ret rfl (End.to (End.same (v:=.none)) hq)
 ·refine .ite (gX (d:=1) rfl rfl hn) (fun q2=>?_) fun q2=>?_
  ·rw [show hd 108 t=false from cB q2] at hq
   exact .ret rfl (End.to (End.same (v:=.none)) hq)
  ·rw [show hd 108 t=true from dq q2] at hq
   exact .nil (.sub1 rfl rfl rfl (.callM (fK (n:=1) k ok9 hn (aaf (Nat.succ_le_succ ht) (by decide))) rfl ok9 rfl rfl fun v σ h=>.nil (.ret rfl (End.to h hq))))
theorem AC (k:Nat) (hr:r.length≤1900):aA ((GG (k+4)).Φ 38) [.obj 0] (stR r r.length bra ket (e9 y p1 p2)) (End (e9 y p1 p2) (bT p1 p2 r)):=by
 refine aw rfl (lG (k:=k+2) (tbl:=jH) (a:=650) (by decide) (eE (by decide)) ok9 rfl (by decide) (fun h bra ket=>End.to (End.same (v:=.none)) (xj h).symm) fun x h hm hp=>?_)
 have hx:x=([101],1)∨x=([108],2):=by
  rw [yN] at hm
  exact (List.mem_cons.mp hm).imp id fun h=>aai.mp h
 rcases hx with rfl | rfl<;>obtain ⟨t,rfl⟩:=hp
 ·exact HH k (Nat.le_of_succ_le hr) rfl
 ·exact HI k (Nat.le_of_succ_le hr) (by rw [show hd 108 t=(t.head?==some 108) by cases t<;>rfl];rfl)
theorem yO (k:Nat) (hr:r.length≤1900):aA ((GG (k+4)).Φ 34) [.obj 0] (stR r r.length bra ket (e9 y p1 p2)) (End (e9 y p1 p2) (ao r)):=by
 refine aw rfl (.set5 rfl rfl rfl ?_)
 have fin:(∃ a t,r=a :: t∧(a==121||a==89)=true)→RB (GG (k+3)) aO [.setA (.loc 0) 4 (.attr (.loc 0) 1),.ite (.not (.meth (.loc 0) 18 [.cat 1])) [.ret (.bool false)] [],
  .ite (.cmp .le (.attr (.loc 0) 1) (.attr (.loc 0) 3)) [.ret (.bool false)] [],.expr (.meth (.loc 0) 24 [.str [105]]),.ret (.bool true)] [some (.obj 0)] (stR r ((r.length:Int) - 1) bra r.length (e9 y p1 p2)) (dN (End (e9 y p1 p2) (ao r))):=by
  rintro ⟨a,t,rfl,ha⟩
  have el:(((a :: t).length:Nat):Int) - 1=(t.length:Nat):=by rw [List.length_cons];lia
  rw [el]
  refine .set4 rfl rfl rfl (.notM (yM (r:=a :: t) (d:=1) (k+2) (by rw [List.length_cons];exact Nat.le_add_left _ _)) (by decide) ok9 rfl rfl (fun q σ e=>?_) fun q σ e=>?_)
  ·obtain ⟨_,c,rfl⟩:=e
   refine .ret rfl ?_
   have:ao (a :: t)=a :: t:=by
    rcases t with _ | ⟨b,_ | ⟨d,t⟩⟩
    ·rfl
    ·rfl
    ·show (if ((a==121||a==89)&&nv b)=true then _ else _)=_
     rw [show nv b=false from q,Bool.and_false];rfl
   rw [this];exact End.same (v:=.none)
  ·obtain ⟨e,_⟩:=e
   rw [e q]
   rcases t with _ | ⟨b,_ | ⟨d,t⟩⟩
   ·injection q
   ·exact .iteT rfl (.ret rfl (End.same (v:=.none)))
   ·refine .skip (cG rfl (by show ¬ ((t.length+1:Nat):Int)≤0;exact Int.not_le.mpr (Int.ofNat_lt.mpr (Nat.succ_pos _)))) (.callM (cJ (r:=a :: b :: d :: t) (s:=[105]) (n:=1) (k+1) ok9 (Nat.succ_pos _) (by show _+1≤_;exact Nat.lt_of_le_of_lt (by assumption) (by decide))) rfl ok9 rfl rfl fun v σ h=>.ret rfl ?_)
    have:ao (a :: b :: d :: t)=105 :: b :: d :: t:=by
     show (if ((a==121||a==89)&&nv b)=true then _ else _)=_
     rw [ha,show nv b=true from q];rfl
    rw [this];exact h
 refine .once (.tryK (fun ρ' σ'=>ρ'=[some (.obj 0)]∧σ'=stR r r.length bra r.length (e9 y p1 p2)∧hd 121 r=false) ?_ ?_)
 ·refine .ite (gX (d:=0) rfl rfl (Nat.zero_le _)) (fun q=>.raise rfl ⟨rfl,rfl,cB q⟩) fun q=>.nil (.sub1 rfl rfl rfl (.brk (fin ?_)))
  obtain ⟨l,rfl⟩:=gY (dq q)
  exact ⟨_,_,rfl,rfl⟩
 ·rintro ρ σ ⟨rfl,rfl,h1⟩
  refine .ite (gX (d:=0) rfl rfl (Nat.zero_le _)) (fun q=>.ret rfl ?_) fun q=>.nil (.sub1 rfl rfl rfl (.brk (fin ?_)))
  ·have:ao r=r:=by
    rcases r with _ | ⟨a,_ | ⟨b,_ | ⟨d,t⟩⟩⟩
    ·rfl
    ·rfl
    ·rfl
    ·show (if ((a==121||a==89)&&nv b)=true then _ else _)=_
     rw [show (a==121)=false from h1,show (a==89)=false from cB q];rfl
   rw [this];exact End.same (v:=.none)
  ·obtain ⟨l,rfl⟩:=gY (dq q)
   exact ⟨_,_,rfl,rfl⟩
end
section
variable {k n:Nat}{w s:List Nat}{c bra ket:Int}{ex:ah}{r:List Nat}{y:Bool}{p1 p2:Nat}{rest:List S}{ρ:Rho}{Q:aP}{σ:St}
theorem RB.at {G:Sg}{n:Nat}{b:List S}{c' l lb:Int}(e:c=c') (h:RB G n b ρ (st w c' l lb bra ket ex) Q):RB G n b ρ (st w c l lb bra ket ex) Q:=e▸h
theorem bk {l c:Int} : l - (l - c)=c:=by lia
theorem oD:aU r=r.drop (fH (ae (KK tb1) r)):=by
 unfold aU
 rw [CW,fW (fun zz=>())]
 cases ae (KK tb1) r<;>rfl
theorem yP:((KK tb1).all fun e=>Nat.blt 0 e.1.length&&!(e.2==0))=true:=by decide
theorem pP {s t:List Nat}{n:Nat}(h:(s++t).length≤n):t.length≤n:=aaf (aaf (Nat.le_add_left _ _) (Nat.le_of_eq List.length_append.symm)) h
theorem G1 {v1 v3:Option V}{t:List Nat}(k:Nat) (ht:t.length≤800) (hQ:∀ (b:Bool) ρ v σ,End (e9 y p1 p2) ([115,115]++t) v σ→Q (.ret (.bool b)) ρ σ) :
 RB (GG (k+3)) aO (f9.drop 4) [some (.obj 0),v1,some (.int 1),v3] (stR ([115,101,115,115]++t) t.length bra ([115,101,115,115]++t).length (e9 y p1 p2)) Q :=
 .skip rfl (.set4 rfl rfl rfl (.iteT rfl (.callM (cJ (r:=[115,101,115,115]++t) (n:=4) (s:=[115,115]) (k+1) ok9 (Nat.le_add_left 4 _) (aaf (Nat.add_le_add_right ht 6) (by decide))) rfl ok9 rfl rfl fun v σ h=>.nil (.ret rfl (hQ _ _ _ _ h)))))
theorem G2 {v1 v3:Option V}{a:Nat}{t:List Nat}(k:Nat) (ht:t.length≤800) (hQ:∀ (b:Bool) ρ v σ,End (e9 y p1 p2) (if 2≤t.length then 105 :: t else 101 :: 105 :: t) v σ→Q (.ret (.bool b)) ρ σ) :
 RB (GG (k+3)) aO (f9.drop 4) [some (.obj 0),v1,some (.int 2),v3] (stR ([a,101,105]++t) t.length bra ([a,101,105]++t).length (e9 y p1 p2)) Q:=by
 refine .skip rfl (.set4 rfl rfl rfl (.iteF rfl (.iteT rfl (.once (.set rfl (.tryK (fun ρ' σ'=>ρ'=[some (.obj 0),v1,some (.int 2),some (.int ((([a,101,105]++t:List Nat).length:Int) - t.length))]∧σ'=stR ([a,101,105]++t) t.length t.length ([a,101,105]++t).length (e9 y p1 p2)∧t.length<2) ?_ ?_))))))
 ·refine .ite rfl (fun h=>.raise rfl ⟨rfl,rfl,?_⟩) fun h=>.nil (.sub1 rfl rfl rfl (.callM (cJ (r:=[a,101,105]++t) (n:=3) (s:=[105]) (k+1) ok9 (Nat.le_add_left 3 _) (aaf (Nat.add_le_add_right ht 4) (by decide))) rfl ok9 rfl rfl fun v σ h2=>.brk (.nil (.nil (.ret rfl (hQ _ _ v _ ?_))))))
  ·exact Int.ofNat_lt.mp (Int.lt_of_sub_neg (of_decide_eq_true h))
  ·rw [if_pos (Nat.le_of_not_lt fun q=>of_decide_eq_false h (Int.sub_neg_of_lt (Int.ofNat_lt.mpr q)))];exact h2
 ·rintro ρ σ ⟨rfl,rfl,h⟩
  refine .set1 rfl rfl rfl (.callM (cJ (r:=[a,101,105]++t) (n:=3) (s:=[105,101]) (k+1) ok9 (Nat.le_add_left 3 _) (aaf (Nat.add_le_add_right ht 5) (by decide))) rfl ok9 rfl rfl fun v σ h2=>.brk (.nil (.nil (.ret rfl (hQ _ _ v _ ?_)))))
  rw [if_neg (Nat.not_le_of_lt h)];exact h2
theorem G3 {v1 v3:Option V}{t:List Nat}(k:Nat) (ht:t.length≤800) (hQ:∀ (b:Bool) ρ v σ,End (e9 y p1 p2) (if (t.drop 1).any vow=true then t else 115 :: t) v σ→Q (.ret (.bool b)) ρ σ) :
 RB (GG (k+3)) aO (f9.drop 4) [some (.obj 0),v1,some (.int 3),v3] (stR (115 :: t) t.length bra (115 :: t).length (e9 y p1 p2)) Q:=by
 refine .skip rfl (.set4 rfl rfl rfl (.iteF rfl (.iteF rfl (.iteT rfl ?_))))
 cases t with
 | nil=>exact .iteT rfl (.ret rfl (hQ _ _ .none _ End.same))
 | cons b t =>
  refine .skip (cG rfl (Int.not_le.mpr (Int.ofNat_lt.mpr (Nat.succ_pos t.length)))) (.sub1 rfl rfl rfl ?_)
  have ht:t.length≤800:=Nat.le_of_succ_le ht
  refine .at (c':=(t.length:Nat)) (Int.add_sub_cancel (t.length:Int) 1) (.notM (vw (r:=115 :: b :: t) (d:=2) (k+2) gF (Nat.le_add_left 2 _) (aaf (Nat.add_le_add_right ht 3) (by decide))) (by decide) ok9 rfl rfl (fun q σ e=>?_) fun q σ e=>?_)
  ·obtain ⟨c,rfl⟩:=e
   have q:t.any vow=false:=q
   refine .ret rfl (hQ _ _ .none _ ?_)
   show End _ (if t.any vow=true then _ else _) _ _
   rw [q];exact End.same
  ·obtain ⟨c,rfl⟩:=e
   have q:t.any vow=true:=q
   refine .sub1 rfl rfl rfl (.callM (fK (r:=115 :: b :: t) (n:=1) k ok9 (Nat.le_add_left 1 _) (aaf (Nat.add_le_add_right ht 2) (by decide))) rfl ok9 rfl rfl fun v σ h=>.nil (.nil (.nil (.ret rfl (hQ _ _ v _ ?_)))))
   show End _ (if t.any vow=true then _ else _) _ _
   rw [q];exact h
theorem yQ (k:Nat) (hr:r.length≤800):aA ((GG (k+4)).Φ 32) [.obj 0] (stR r r.length bra ket (e9 y p1 p2)) (End (e9 y p1 p2) (a9 (aU r))):=by
 refine aw rfl (.set rfl (.tryK (fun ρ' σ'=>ρ'=[some (.obj 0),some (.int ((r.length:Int) - r.length)),none,none]∧∃ bra ket:Int,σ'=stR (aU r) (aU r).length bra ket (e9 y p1 p2)) (.set5 rfl rfl rfl ?_) ?_))
 ·rw [oD]
  refine .eq0M (iu (tbl:=tb1) (a:=368) (d:=0) (k+2) (by decide) (eE (by decide)) (Nat.zero_le _)) (by decide) ok9 rfl rfl (fun q σ e=>?_) fun q σ e=>?_
  ·cases hb:ae (KK tb1) r with
   | none =>
    rw [List.drop_zero,hb] at e
    exact e▸.set1 rfl rfl (dK bk rfl) (.raise rfl ⟨rfl,_,_,rfl⟩)
   | some x =>
    rw [List.drop_zero,hb] at q
    have:=(aac.mp (aab.mp yP x (aa hb).1)).2
    rw [show x.2=0 from q] at this;injection this
  ·cases hb:ae (KK tb1) r with
   | none=>rw [List.drop_zero,hb] at q;exact absurd rfl q
   | some x =>
    rw [List.drop_zero,hb,Nat.zero_add] at e
    obtain ⟨hm,hp⟩:=aa hb
    have:=aan (aac.mp (aab.mp yP x hm)).1
    exact e▸.set4 rfl rfl rfl (.callM (BH k ok9 hp.length_le this (aaf (by assumption) (by decide))) rfl ok9 rfl rfl fun v σ h=>.nil ⟨rfl,h.2⟩)
 ·have hq:(aU r).length≤800:=by rw [oD,aal];exact aaf (Nat.sub_le _ _) (by assumption)
  generalize aU r=q at hq
  rintro ρ σ ⟨rfl,bra,ket,rfl⟩
  have hb2:∀ {x},ae (KK tb2) q=x→ae t1a q=x.map fun e=>(e.1,if e.2 = -1 then 0 else e.2.toNat):=fun {x} h=>by rw [E8,fW (fun v:Int=>if v = -1 then 0 else v.toNat),h]
  refine .set5 rfl rfl rfl (.setM (iu (tbl:=tb2) (a:=378) (d:=0) (k+2) (by decide) (eE (by decide)) (Nat.zero_le _)) (by decide) ok9 rfl rfl ?_)
  rintro v σ ⟨rfl,rfl⟩
  rw [List.drop_zero,Nat.zero_add]
  cases hb:ae (KK tb2) q with
  | none =>
   have:a9 q=q:=by unfold a9;rw [hb2 hb];rfl
   exact .iteT rfl (.ret rfl (by rw [this];exact End.same (v:=.none)))
  | some x =>
   obtain ⟨hm,hp⟩:=aa hb
   obtain ⟨z1,z2⟩:=x
   have hx:=aab.mp (show ((KK tb2).all fun e=>(e.2==1&&e.1==[115,101,115,115])||(e.2==2&&(e.1==[100,101,105]||e.1==[115,101,105]))||(e.2==3&&e.1==[115])||e.2==-1)=true by decide) _ hm
   simp only [Bool.or_eq_true,Bool.and_eq_true,beq_iff_eq] at hx
   rcases hx with ((⟨rfl,rfl⟩ | ⟨rfl,hx⟩) | ⟨rfl,rfl⟩) | rfl
   ·obtain ⟨t,rfl⟩:=hp
    exact G1 k (pP hq) fun b ρ v σ h=>End.of (v':=.none) h (by unfold a9;rw [hb2 hb];rfl)
   ·obtain ⟨a,rfl⟩:∃ a,z1=[a,101,105]:=hx.elim (fun h=>⟨_,h⟩) fun h=>⟨_,h⟩
    obtain ⟨t,rfl⟩:=hp
    exact G2 k (pP hq) fun b ρ v σ h=>End.of (v':=.none) h (by unfold a9;rw [hb2 hb];rfl)
   ·obtain ⟨t,rfl⟩:=hp
    exact G3 k (pP hq) fun b ρ v σ h=>End.of (v':=.none) h (by unfold a9;rw [hb2 hb];rfl)
   ·have e1:a9 q=q:=by unfold a9;rw [hb2 hb];rfl
    rw [e1]
    exact .skip rfl (.set4 rfl rfl rfl (.iteF rfl (.iteF rfl (.iteF rfl (.nil (.nil (.nil (.ret rfl (End.same (v:=.none))))))))))
end
noncomputable def atL:List (List Nat):=["at","bl","iz"].map rk
theorem vA {K:List (List Nat×Int)}{L:List (List Nat)}{q:List Nat}{x:List Nat×Int}(h:ae K q=some x) (hK:(K.all fun e=>Nat.ble e.1.length 2)=true) (hL:(L.all fun s=>s.length==2&&K.any fun e=>e.1==s)=true):(L.any fun s=>s.isPrefixOf q)=L.contains x.1:=by
 obtain ⟨hm,hp⟩:=aa h
 rw [Bool.eq_iff_iff,List.any_eq_true,aak]
 constructor
 ·rintro ⟨s,hs,p⟩
  have p:=aae.mp p
  obtain ⟨l2,k⟩:=aac.mp (aab.mp hL s hs)
  obtain ⟨e,he,es⟩:=List.any_eq_true.mp k
  have es:=eq_of_beq es
  obtain ⟨g,h1,h2⟩:=bF he (by rw [es];exact p)
  obtain rfl:=aaa (h.symm.trans h1)
  have l3:=aan (aab.mp hK x hm)
  have l2:=eq_of_beq l2
  rw [es,l2] at h2
  have:s=x.1:=(List.prefix_of_prefix_length_le p hp (by omega)).eq_of_length (by lia)
  exact this▸hs
 ·exact fun h=>⟨x.1,h,aae.mpr hp⟩
theorem BI {K:List (List Nat×Int)}{L:List (List Nat)}{q:List Nat}{v:Int}(hK:(K.all fun e=>L.contains e.1==(e.2==v))=true) (hL:(L.all fun s=>K.any fun e=>e.1==s)=true):L.contains q=(match ae K q with | some x=>x.2==v&&(q.drop x.1.length).isEmpty | none=>false):=by
 rw [Bool.eq_iff_iff,aak]
 constructor
 ·intro h
  obtain ⟨e,he,es⟩:=List.any_eq_true.mp (aab.mp hL q h)
  have es:=eq_of_beq es
  obtain ⟨g,h1,h2⟩:=bF he (by rw [es];exact List.prefix_refl q)
  obtain ⟨hm,hp⟩:=aa h1
  rw [h1]
  rw [es] at h2
  have e2:g.1=q:=hp.eq_of_length (Nat.le_antisymm hp.length_le h2)
  have:=eq_of_beq (aab.mp hK g hm)
  rw [e2,aak.mpr h] at this
  dsimp only
  rw [← this,e2,List.drop_length];rfl
 ·intro h
  cases hb:ae K q with
  | none=>rw [hb] at h;injection h
  | some x =>
   rw [hb] at h
   obtain ⟨hm,hp⟩:=aa hb
   obtain ⟨h1,h2⟩:=aac.mp h
   have:=eq_of_beq (aab.mp hK x hm)
   rw [h1] at this
   obtain ⟨t,rfl⟩:=hp
   rw [List.drop_left] at h2
   rw [List.isEmpty_iff.mp h2,List.append_nil]
   exact aak.mp this
noncomputable def PM (ex:ah) (q:List Nat):aP:=fun o zz σ=>((∃ v,o = .ret v)∨o = .brk)∧End ex q .none σ
noncomputable def xl:List S:=[.setA (.loc 0) 5 (.attr (.loc 0) 1),
 .setA (.loc 0) 4 (.attr (.loc 0) 1),
 .set 4 (.bin .sub (.attr (.loc 0) 2) (.attr (.loc 0) 1)),
 .set 1 (.meth (.loc 0) 22 [.cat 10]),
 .ite (.cmp .eq (.loc 1) (.int 1)) [.expr (.meth (.loc 0) 24 [.str [101]]),
  .ret (.bool false)] [.ite (.cmp .eq (.loc 1) (.int 2)) [.set 6 (.bin .sub (.attr (.loc 0) 2) (.attr (.loc 0) 1)),
   .try1 [.ite (.not (.meth (.loc 0) 16 [.cat 0])) [.raise 0] [],
    .ite (.cmp .gt (.attr (.loc 0) 1) (.attr (.loc 0) 3)) [.raise 0] [],
    .ret (.bool false)] 0,
   .setA (.loc 0) 1 (.bin .sub (.attr (.loc 0) 2) (.loc 6))] [.ite (.cmp .ne (.attr (.loc 0) 1) (.attr (.loc 0) 7)) [.ret (.bool false)] [],
   .set 7 (.bin .sub (.attr (.loc 0) 2) (.attr (.loc 0) 1)),
   .ite (.not (.meth (.loc 0) 29 [])) [.ret (.bool false)] [],
   .setA (.loc 0) 1 (.bin .sub (.attr (.loc 0) 2) (.loc 7)),
   .expr (.meth (.loc 0) 24 [.str [101]]),
   .ret (.bool false)]],
 .setA (.loc 0) 1 (.bin .sub (.attr (.loc 0) 2) (.loc 4)),
 .setA (.loc 0) 5 (.attr (.loc 0) 1),
 .ite (.cmp .le (.attr (.loc 0) 1) (.attr (.loc 0) 3)) [.ret (.bool false)] [],
 .augA (.loc 0) 1 .sub (.int 1),
 .setA (.loc 0) 4 (.attr (.loc 0) 1),
 .expr (.meth (.loc 0) 25 []),
 .brk]
section
variable {k n:Nat}{w s:List Nat}{c bra ket:Int}{ex:ah}{r q:List Nat}{y:Bool}{p1 p2:Nat}{rest:List S}{ρ:Rho}{Q:aP}{σ:St}{b1 b2 b3 b4 b5 b6 b7 b8 b9:Option V}
noncomputable def BJ (q:List Nat):List Nat:=match q with
 | [_,_,x]=>if [97,101,111].contains x then q else q.drop 1
 | _=>q.drop 1
theorem PM.ret {v:V}(h:End ex q .none σ):PM ex q (.ret v) ρ σ:=⟨.inl ⟨_,rfl⟩,h⟩
theorem PM.brk (h:End ex q .none σ):PM ex q .brk ρ σ:=⟨.inr rfl,h⟩
theorem CY {x:List Nat×Int}(h:ae (KK tb6) q=some x):gE p1 q=if (x.2==1)=true then 101 :: q else if (x.2==2)=true then BJ q else if (decide (q.length=p1)&&aF q)=true then 101 :: q else q:=by
 have hm:=(aa h).1
 have e1:=vA (L:=atL) h (by decide) (by decide +kernel)
 have e2:=vA (L:=jf) h (by decide) (by decide +kernel)
 have v1:=eq_of_beq (aab.mp (show ((KK tb6).all fun e=>atL.contains e.1==(e.2==1))=true by decide +kernel) x hm)
 have v2:=eq_of_beq (aab.mp (show ((KK tb6).all fun e=>jf.contains e.1==(e.2==2))=true by decide +kernel) x hm)
 rw [v1] at e1
 rw [v2] at e2
 rw [← e1,← e2]
 rfl
theorem E9:∀ {l:List Nat},l.length=2→∃ a b,l=[a,b]
 | [a,b],_=>⟨a,b,rfl⟩
theorem mM {a b:Nat}{t z:List Nat}{bra:Int}(k:Nat) (ht:t.length≤800) (hz:BJ (a :: b :: t)=z):RB (GG (k+3)) aO (xl.drop 4) [some (.obj 0),some (.int 2),b2,b3,some (.int (((a :: b :: t).length:Int) - (a :: b :: t).length)),b5,b6,b7,b8,b9] (stR (a :: b :: t) t.length bra (a :: b :: t).length (e9 y p1 p2)) (PM (e9 y p1 p2) z):=by
 refine .iteF rfl (.iteT rfl (.set rfl (.tryK (fun ρ' σ'=>ρ'=[some (.obj 0),some (.int 2),b2,b3,some (.int (((a :: b :: t).length:Int) - (a :: b :: t).length)),b5,some (.int (((a :: b :: t).length:Int) - t.length)),b7,b8,b9]∧(∃ c bra:Int,σ'=stR (a :: b :: t) c bra (a :: b :: t).length (e9 y p1 p2))∧b :: t=z) ?_ ?_)))
 ·refine .notM (BG (r:=a :: b :: t) (d:=2) (k+2) (gV [97,101,111]) (Nat.le_add_left 2 _)) (by decide) ok9 rfl rfl (fun q σ e=>.raise rfl ⟨rfl,?_,?_⟩) fun q σ e=>?_
  ·obtain ⟨_,c,rfl⟩:=e;exact ⟨_,_,rfl⟩
  ·rw [← hz]
   rcases t with _ | ⟨x,_ | ⟨d,t⟩⟩
   ·rfl
   ·show _=(if ([97,101,111]:List Nat).contains x=true then _ else _)
    rw [show ([97,101,111]:List Nat).contains x=false from q];rfl
   ·rfl
  ·rw [e.1 q]
   rcases t with _ | ⟨x,_ | ⟨d,t⟩⟩
   ·injection q
   ·refine .skip rfl (.ret rfl (PM.ret (ρ:=[]) (End.to (End.same (v:=.none)) (Eq.trans ?_ hz))))
    show _=(if ([97,101,111]:List Nat).contains x=true then _ else _)
    rw [show ([97,101,111]:List Nat).contains x=true from q];rfl
   ·exact .iteT (cA rfl (Int.ofNat_lt.mpr (Nat.succ_pos t.length))) (.raise rfl ⟨rfl,⟨_,_,rfl⟩,hz⟩)
 ·rintro ρ σ ⟨rfl,⟨c,bra,rfl⟩,h3⟩
  exact .set1 rfl rfl rfl (.nil (.nil (.set1 rfl rfl (dK bk rfl) (.set5 rfl rfl rfl (.skip (cG rfl (Int.not_le.mpr (Int.ofNat_lt.mpr (Nat.succ_pos (t.length+1))))) (.sub1 rfl rfl rfl (.at (c':=(b :: t).length) (Int.add_sub_cancel ((t.length+1:Nat):Int) 1) (.set4 rfl rfl rfl (.callM (fK (r:=a :: b :: t) (n:=1) k ok9 (Nat.le_add_left 1 _) (aaf (Nat.add_le_add_right ht 2) (by decide))) rfl ok9 rfl rfl fun v σ h=>.brk (PM.brk (ρ:=[]) (End.to h h3)))))))))))
theorem CZ (k:Nat) (hq:q.length≤800):RB (GG (k+3)) aO xl [some (.obj 0),b1,b2,b3,b4,b5,b6,b7,b8,b9] (stR q q.length bra ket (e9 y p1 p2)) (PM (e9 y p1 p2) (gE p1 q)):=by
 generalize hz:gE p1 q=z
 refine .set5 rfl rfl rfl (.set4 rfl rfl rfl (.set rfl (.setM (iu (tbl:=tb6) (a:=451) (d:=0) (k+2) (by decide) (eE (by decide)) (Nat.zero_le _)) (by decide) ok9 rfl rfl ?_)))
 rintro v σ ⟨rfl,rfl⟩
 rw [List.drop_zero,Nat.zero_add]
 obtain ⟨x,hb⟩:∃ x,ae (KK tb6) q=some x:=by
  obtain ⟨g,h1,_⟩:=bF (l:=KK tb6) (r:=q) (f:=([],3)) aam List.nil_prefix
  exact ⟨g,h1⟩
 obtain ⟨hm,hp⟩:=aa hb
 have hk:=aab.mp (show ((KK tb6).all fun e=>(e.2==1&&e.1.length==2)||(e.2==2&&e.1.length==2)||e.2==3&&e.1.length==0)=true by decide) x hm
 rw [CY hb] at hz
 rw [hb]
 clear hb hm
 obtain ⟨z1,z2⟩:=x
 have l2:q.length+1≤2000:=aaf (Nat.succ_le_succ hq) (by decide)
 rcases Bool.or_eq_true_iff.mp hk with hk | hk
 ·rcases Bool.or_eq_true_iff.mp hk with hk | hk<;>obtain ⟨h1,h2⟩:=aac.mp hk<;>obtain rfl:=eq_of_beq h1
  ·exact .iteT rfl (.callM (cJ (n:=0) (s:=[101]) (k+1) ok9 (Nat.zero_le _) l2) rfl ok9 rfl rfl fun v σ h=>.ret rfl (PM.ret (ρ:=[]) (End.to h hz)))
  ·obtain ⟨a,b,rfl⟩:=E9 (eq_of_beq h2)
   obtain ⟨t,rfl⟩:=hp
   exact mM k (Nat.le_of_add_right_le (k:=2) hq) hz
 ·obtain ⟨h1,h2⟩:=aac.mp hk
  obtain rfl:=eq_of_beq h1
  obtain rfl:=List.length_eq_zero_iff.mp (eq_of_beq h2)
  have hz:(if (decide (q.length=p1)&&aF q)=true then 101 :: q else q)=z:=hz
  refine .iteF rfl (.iteF rfl ?_)
  refine .ite (p:=!((q.length:Int)==p1)) rfl (fun h=>.ret rfl (PM.ret (ρ:=[]) ?_)) fun h=>.nil (.set rfl (.notM (sZ (r:=q) (d:=0) (k+1) ok9 (Nat.zero_le _)) (by decide) ok9 rfl rfl (fun h2 σ e=>?_) fun h2 σ e=>?_))
  ·rw [decide_eq_false fun e:q.length=p1=>beq_eq_false_iff_ne.mp (cB h) (congrArg Int.ofNat e)] at hz;exact End.to (End.same (v:=.none)) hz
  ·rw [show aF q=false from h2,Bool.and_false] at hz
   obtain ⟨c,rfl⟩:=e
   exact .ret rfl (PM.ret (ρ:=[]) (End.to (End.same (v:=.none)) hz))
  ·rw [show aF q=true from h2,decide_eq_true (Int.ofNat.inj (eq_of_beq (dq h)))] at hz
   obtain ⟨c,rfl⟩:=e
   exact .set1 rfl rfl rfl (.callM (cJ (r:=q) (n:=0) (s:=[101]) (k+1) ok9 (Nat.zero_le _) l2) rfl ok9 rfl rfl fun v σ h3=>.ret rfl (PM.ret (ρ:=[]) (End.to h3 hz)))
end
noncomputable def HJ:List S:=.setA (.loc 0) 1 (.bin .sub (.attr (.loc 0) 2) (.loc 2)) :: .set 3 (.bin .sub (.attr (.loc 0) 2) (.attr (.loc 0) 1)) :: .ite (.not (.meth (.loc 0) 19 [.cat 1])) [.ret (.bool false)] [] ::
 .augA (.loc 0) 1 .sub (.int 1) :: .setA (.loc 0) 1 (.bin .sub (.attr (.loc 0) 2) (.loc 3)) :: .expr (.meth (.loc 0) 25 []) :: xl
noncomputable def T5:List (List Nat×Int):=(KK tb5).tail
noncomputable def L3:List (List Nat):=["succ","proc","exc"].map rk
noncomputable def L4:List (List Nat):=["even","cann","inn","earr","herr","out"].map rk
section
variable {k n:Nat}{w s:List Nat}{c bra ket:Int}{ex:ah}{r q:List Nat}{y:Bool}{p1 p2:Nat}{rest:List S}{ρ:Rho}{Q:aP}{σ:St}{b1 b2 b3 b4 b5 b6 b7 b8 b9:Option V}
theorem yR (k:Nat) (hr:r.length≤800) (h0:0<n) (hn:n≤r.length):RB (GG (k+3)) aO HJ [some (.obj 0),b1,some (.int ((r.length:Int) - (r.drop n).length)),b3,b4,b5,b6,b7,b8,b9] (stR r c (r.drop n).length r.length (e9 y p1 p2)) (PM (e9 y p1 p2) (bL p1 n r)):=by
 refine .set1 rfl rfl (dK bk rfl) (.set rfl (.notM (vw (d:=n) (k+2) gF hn (Nat.lt_of_le_of_lt (by assumption) (by decide))) (by decide) ok9 rfl rfl (fun q σ e=>?_) fun q σ e=>?_))
 ·obtain ⟨c,rfl⟩:=e
  refine .ret rfl (PM.ret (ρ:=[]) ?_)
  unfold bL
  rw [q];exact End.same (v:=.none)
 ·obtain ⟨c,rfl⟩:=e
  refine .sub1 rfl rfl rfl (.set1 rfl rfl (dK bk rfl) (.callM (BH k ok9 hn h0 (aaf (by assumption) (by decide))) rfl ok9 rfl rfl fun v σ h=>?_))
  obtain ⟨_,bra,ket,rfl⟩:=h
  have:bL p1 n r=gE p1 (r.drop n):=by unfold bL;rw [q];rfl
  rw [this]
  exact CZ k (by rw [aal];exact aaf (Nat.sub_le _ _) (by assumption))
theorem Fa:t1b=T5.map fun e=>(e.1,e.2.toNat):=by decide +kernel
theorem G4 {x:List Nat×Int}(h:ae (KK tb5) r=some x):(x=([],-1)∧ae t1b r=none)∨(ae t1b r=some (x.1,x.2.toNat)∧x∈T5):=by
 have e:ae (([],-1) :: T5) r=some x:=h
 rw [Fa,fW Int.toNat]
 unfold ae at e
 cases hb:ae T5 r with
 | none=>rw [hb] at e;obtain rfl:=aaa e;exact .inl ⟨rfl,rfl⟩
 | some f =>
  rw [hb] at e
  dsimp only at e
  rw [if_neg (fun h=>Bool.noConfusion h)] at e
  obtain rfl:=aaa e
  exact .inr ⟨rfl,(aa hb).1⟩
noncomputable def Fb:List S:=[.set 5 (.bin .sub (.attr (.loc 0) 2) (.attr (.loc 0) 1)),
 .try1 [.ite (.not (.meth (.loc 0) 30 [])) [.raise 1] [],
  .whl (.bool true) [.set 8 (.bin .sub (.attr (.loc 0) 2) (.attr (.loc 0) 1)),
   .try1 [.ite (.cmp .eq (.meth (.loc 0) 22 [.cat 7]) (.int 0)) [.raise 2] [],
    .ite (.cmp .gt (.attr (.loc 0) 1) (.attr (.loc 0) 3)) [.raise 2] [],
    .brk] 2,
   .setA (.loc 0) 1 (.bin .sub (.attr (.loc 0) 2) (.loc 8)),
   .expr (.meth (.loc 0) 24 [.str [101,101]]),
   .brk]] 1,
 .setA (.loc 0) 1 (.bin .sub (.attr (.loc 0) 2) (.loc 5))]
noncomputable def Fc:List S:=[.set 1 (.meth (.loc 0) 22 [.cat 8]),
 .ite (.cmp .eq (.loc 1) (.int 0)) [.raise 0] [],
 .ite (.cmp .eq (.loc 1) (.int 1)) [.set 9 (.bin .sub (.attr (.loc 0) 2) (.attr (.loc 0) 1)),
  .ite (.not (.meth (.loc 0) 18 [.cat 1])) [.raise 0] [],
  .ite (.cmp .gt (.attr (.loc 0) 1) (.attr (.loc 0) 3)) [.raise 0] [],
  .setA (.loc 0) 1 (.bin .sub (.attr (.loc 0) 2) (.loc 9)),
  .setA (.loc 0) 4 (.attr (.loc 0) 1),
  .expr (.meth (.loc 0) 24 [.str [105,101]])] [.ite (.cmp .gt (.attr (.loc 0) 1) (.attr (.loc 0) 3)) [.raise 0] []]]
theorem dD {l:List Nat} : (decide ((l.length:Int)>0)) = !l.isEmpty:=by cases l<;>simp
theorem G5 (k:Nat) (hr:r.length≤800) (hn:n≤r.length) {R:aP}{q':List Nat}(he:q'=if (Eng.inR p1 r n&&!L3.contains (r.drop n))=true then 101 :: 101 :: r.drop n else r) (hR:∀ ρ σ,End (e9 y p1 p2) q' .none σ→R .next ρ σ):RB (GG (k+3)) aO Fb [some (.obj 0),b1,b2,b3,b4,b5,b6,b7,b8,b9] (stR r (r.drop n).length (r.drop n).length r.length (e9 y p1 p2)) R:=by
 have e3:∀ {z},ae (KK tb3) (r.drop n)=z→L3.contains (r.drop n)=(match z with | some x=>x.2==1&&((r.drop n).drop x.1.length).isEmpty | none=>false):=fun {z} h=>h▸BI (v:=1) (by decide +kernel) (by decide +kernel)
 refine .set rfl (.tryK (fun ρ' σ'=>(∃ b8,ρ'=[some (.obj 0),b1,b2,b3,b4,some (.int ((r.length:Int) - (r.drop n).length)),b6,b7,b8,b9])∧End (e9 y p1 p2) q' .none σ') ?_ ?_)
 ·refine .notM (qL (k+2)) (by decide) ok9 rfl rfl (fun q σ e=>.raise rfl ⟨⟨_,rfl⟩,?_⟩) fun q σ e=>?_
  ·rw [iv] at q
   rw [e,he,q];exact End.same (v:=.none)
  rw [iv] at q
  rw [e]
  rw [q,Bool.true_and] at he
  refine .once (.set rfl (.tryK (fun ρ' σ'=>(ρ'=[some (.obj 0),b1,b2,b3,b4,some (.int ((r.length:Int) - (r.drop n).length)),b6,b7,some (.int ((r.length:Int) - (r.drop n).length)),b9])∧(∃ c:Int,σ'=stR r c (r.drop n).length r.length (e9 y p1 p2))∧L3.contains (r.drop n)=false) ?_ ?_))
  ·refine .eq0M (iu (tbl:=tb3) (a:=397) (d:=n) (k+2) (by decide) (eE (by decide)) hn) (by decide) ok9 rfl rfl (fun q σ e=>.raise rfl ⟨rfl,⟨_,e⟩,?_⟩) fun q σ e=>?_
   ·cases hb:ae (KK tb3) (r.drop n) with
    | none=>rw [e3 hb]
    | some x =>
     rw [hb] at q
     have:=aab.mp (show ((KK tb3).all fun e=>!(e.2==0))=true by decide) x (aa hb).1
     rw [show x.2=0 from q] at this;injection this
   ·cases hb:ae (KK tb3) (r.drop n) with
    | none=>rw [hb] at q;exact absurd rfl q
    | some x =>
     rw [hb] at e
     rw [e]
     have v1:=eq_of_beq (aab.mp (show ((KK tb3).all fun e=>e.2==1)=true by decide) x (aa hb).1)
     have e4:=e3 hb
     dsimp only at e4
     rw [v1,List.drop_drop] at e4
     refine .ite (p:=!(r.drop (n+x.1.length)).isEmpty) (gN rfl dD) (fun h=>.raise rfl ⟨rfl,⟨_,rfl⟩,?_⟩) fun h=>.nil (.brk (.nil ⟨⟨_,rfl⟩,?_⟩))
     ·rw [e4,cB h];rfl
     ·rw [he,e4,dq h];exact End.same (v:=.none)
  ·rintro ρ σ ⟨rfl,⟨c,rfl⟩,h⟩
   refine .set1 rfl rfl rfl (.callM (cJ (n:=n) (s:=[101,101]) (k+1) ok9 hn (by show _+2≤2000;exact aaf (Nat.add_le_add_right (by assumption) _) (by decide))) rfl ok9 rfl rfl fun v σ h2=>.brk (.nil ⟨⟨_,rfl⟩,?_⟩))
   rw [he,h];exact h2
 ·rintro ρ σ ⟨⟨b8,rfl⟩,c,bra,ket,rfl⟩
  exact .set1 rfl rfl rfl (.nil (hR _ _ ⟨_,_,_,rfl⟩))
end
section
variable {k n:Nat}{w s:List Nat}{c bra ket:Int}{ex:ah}{r q:List Nat}{y:Bool}{p1 p2:Nat}{rest:List S}{ρ:Rho}{Q:aP}{σ:St}{b1 b2 b3 b4 b5 b6 b7 b8 b9:Option V}
noncomputable def iw (p1:Nat) (r:List Nat):List Nat:=match r.drop 3 with
 | [121,c]=>if vow c then bL p1 3 r else [101,105,c]
 | _=>bL p1 3 r
noncomputable def KB (r:List Nat) (n:Nat) (ex:ah):Rho→St→Prop:=fun ρ' σ'=>(∃ b1 b9,ρ'=[some (.obj 0),b1,some (.int ((r.length:Int) - (r.drop n).length)),none,none,none,none,none,none,b9])∧∃ c:Int,σ'=stR r c (r.drop n).length r.length ex
set_option tactic.hygienic true in
theorem G6 (k:Nat) (hr:r.length≤800) (hn:3≤r.length) {R:aP}(hE:∀ ρ σ,End (e9 y p1 p2) (if L4.contains (r.drop 3)=true then r else iw p1 r) .none σ→R .next ρ σ) (hK:(if L4.contains (r.drop 3)=true then r else iw p1 r)=bL p1 3 r→∀ ρ σ,KB r 3 (e9 y p1 p2) ρ σ→R (.exc 0) ρ σ):RB (GG (k+3)) aO Fc [some (.obj 0),some (.int 3),some (.int ((r.length:Int) - (r.drop 3).length)),none,none,none,none,none,none,none] (stR r (r.drop 3).length (r.drop 3).length r.length (e9 y p1 p2)) R:=by
 have e4:∀ {z},ae (KK tb4) (r.drop 3)=z→L4.contains (r.drop 3)=(match z with | some x=>x.2==2&&((r.drop 3).drop x.1.length).isEmpty | none=>false):=fun {z} h=>h▸BI (v:=2) (by decide +kernel) (by decide +kernel)
 have ny:(∀ t,r.drop 3≠121 :: t)→iw p1 r=bL p1 3 r:=fun h=>by
  unfold iw
  split
  ·rename_i c e;exact absurd e (h _)
  ·rfl
 refine .setM (iu (tbl:=tb4) (a:=407) (d:=3) (k+2) (by decide) (eE (by decide)) hn) (by decide) ok9 rfl rfl ?_
 rintro v σ ⟨rfl,rfl⟩
 cases hb:ae (KK tb4) (r.drop 3) with
 | none =>
  refine .iteT rfl (.raise rfl (hK ?_ _ _ ⟨⟨_,_,rfl⟩,_,rfl⟩))
  rw [e4 hb]
  refine ny fun t e=>?_
  refine bl hb ([121],1) (by decide) ?_
  rw [e];exact ⟨t,rfl⟩
 | some x =>
  obtain ⟨hm,hp⟩:=aa hb
  have hk:=aab.mp (show ((KK tb4).all fun e=>(e.2==1&&e.1==[121])||(e.2==2&&!(e.1.head?==some 121)&&!(e.1==[])))=true by decide) x hm
  obtain ⟨z1,z2⟩:=x
  simp only [Bool.or_eq_true,Bool.and_eq_true,beq_iff_eq,Bool.not_eq_true',beq_eq_false_iff_ne] at hk
  rcases hk with ⟨rfl,rfl⟩ | ⟨⟨rfl,hy⟩,hne⟩
  ·obtain ⟨t,ht⟩:=hp
   have ht:r.drop 3=121 :: t:=ht.symm
   have l4:4≤r.length:=by
    have:=congrArg List.length ht
    rw [aal,List.length_cons] at this;omega
   have d4:r.drop 4=t:=by rw [show (4:Nat)=3+1 from rfl,← List.drop_drop,ht];rfl
   have e5:L4.contains (r.drop 3)=false:=e4 hb
   rw [e5] at hE hK
   refine .skip rfl (.iteT rfl (.set rfl (.notM (yM (d:=4) (k+2) l4) (by decide) ok9 rfl rfl (fun q σ e=>?_) fun q σ e=>?_)))
   ·refine .raise rfl (hK ?_ _ _ ⟨⟨_,_,rfl⟩,e.2⟩)
    show iw p1 r=_
    unfold iw
    rw [ht]
    rw [d4] at q
    rcases t with _ | ⟨a,_ | ⟨b,t⟩⟩
    ·rfl
    ·show (if vow a=true then _ else _)=_
     rw [if_pos]
     cases h:vow a
     ·rw [show hnv [a] = !vow a from rfl,h] at q;injection q
     ·rfl
    ·rfl
   ·have e:=e.1 q
    rw [e]
    rw [d4] at q
    refine .ite (p:=!(r.drop (4+1)).isEmpty) (gN rfl dD) (fun h=>.raise rfl (hK ?_ _ _ ⟨⟨_,_,rfl⟩,_,rfl⟩)) fun h=>.nil (.set1 rfl rfl (dK bk rfl) (.set4 rfl rfl rfl (.callM (cJ (n:=4) (s:=[105,101]) (k+1) ok9 l4 (by show _+2≤2000;exact aaf (Nat.add_le_add_right (by assumption) _) (by decide))) rfl ok9 rfl rfl fun v σ h2=>?_)))
    ·show iw p1 r=_
     have h:(r.drop (4+1)).isEmpty=false:=cB h
     unfold iw
     rw [ht]
     rw [← List.drop_drop,d4] at h
     rcases t with _ | ⟨a,_ | ⟨b,t⟩⟩
     ·rfl
     ·injection h
     ·rfl
    ·repeat (refine RB.nil ?_)
     refine hE _ _ ?_
     have h:=dq h
     rw [← List.drop_drop,d4] at h
     have:iw p1 r=[101,105]++r.drop 4:=by
      unfold iw
      rw [ht,d4]
      rcases t with _ | ⟨a,_ | ⟨b,t⟩⟩
      ·injection q
      ·show (if vow a=true then _ else _)=_
       rw [if_neg (by rw [show hnv [a] = !vow a from rfl] at q;rw [bE q];exact aaj)];rfl
      ·injection h
     rw [this];exact h2
  ·have e5:L4.contains (r.drop 3)=(r.drop (3+z1.length)).isEmpty:=by rw [e4 hb,← List.drop_drop];rfl
   rw [e5] at hE hK
   refine .skip rfl (.iteF rfl (.ite (p:=!(r.drop (3+z1.length)).isEmpty) (gN rfl dD) (fun h=>.raise rfl (hK ?_ _ _ ⟨⟨_,_,rfl⟩,_,rfl⟩)) fun h=>?_))
   ·rw [cB h]
    refine ny fun t e=>hy ?_
    obtain ⟨u,hu⟩:=hp
    have hu:z1++u=r.drop 3:=hu
    rw [e] at hu
    cases z1 with
    | nil=>exact absurd rfl hne
    | cons a l=>(injection hu with hE;subst hE);rfl
   ·repeat (refine RB.nil ?_)
    refine hE _ _ ?_
    rw [dq h];exact End.same (v:=.none)
theorem yS (k:Nat) (hr:r.length≤800):aA ((GG (k+4)).Φ 33) [.obj 0] (stR r r.length bra ket (e9 y p1 p2)) (End (e9 y p1 p2) (aY p1 r)):=by
 refine aw rfl (.set5 rfl rfl rfl (.setM (iu (tbl:=tb5) (a:=429) (d:=0) (k+2) (by decide) (eE (by decide)) (Nat.zero_le _)) (by decide) ok9 rfl rfl ?_))
 rintro v σ ⟨rfl,rfl⟩
 rw [List.drop_zero,Nat.zero_add]
 obtain ⟨x,hb⟩:∃ x,ae (KK tb5) r=some x:=by
  obtain ⟨g,h1,_⟩:=bF (l:=KK tb5) (r:=r) (f:=([],-1)) aam List.nil_prefix
  exact ⟨g,h1⟩
 rw [hb]
 have hn:=(aa hb).2.length_le
 refine .set4 rfl rfl rfl (.once (RB.mono (P:=PM (e9 y p1 p2) (aY p1 r)) ?_ fun o ρ σ p=>?_))
 ·rcases G4 hb with ⟨rfl,h2⟩ | ⟨h2,h5⟩
  ·have:aY p1 r=r:=by unfold aY;rw [h2]
   rw [this]
   exact .set rfl (.try1 (.iteF rfl (.iteF rfl (.iteF rfl (.nil (.nil (.nil (.brk (PM.brk (ρ:=[]) (End.same (v:=.none)))))))))))
  ·have hk:=aab.mp (show (T5.all fun e=>Nat.blt 0 e.1.length&&(e.2==1||e.2==2||(e.2==3&&e.1==[103,110,105])))=true by decide) x h5
   obtain ⟨z1,z2⟩:=x
   obtain ⟨hp0,hk⟩:=aac.mp hk
   have hpos:0<z1.length:=aan hp0
   have hn:z1.length≤r.length:=hn
   simp only [Bool.or_eq_true,Bool.and_eq_true,beq_iff_eq] at hk
   rcases hk with (rfl | rfl) | ⟨rfl,rfl⟩
   ·refine .set rfl (.try1 (.iteT rfl (G5 k hr hn (q':=aY p1 r) (by unfold aY;rw [h2];rfl) fun ρ σ h=>?_)))
    exact .brk (PM.brk (ρ:=[]) h)
   ·have:aY p1 r=bL p1 z1.length r:=by unfold aY;rw [h2];rfl
    rw [this]
    exact .set rfl (.tryK (KB r z1.length (e9 y p1 p2)) (.iteF rfl (.iteT rfl (.raise rfl ⟨⟨_,_,rfl⟩,_,rfl⟩))) (by rintro ρ σ ⟨⟨b1,b9,rfl⟩,c,rfl⟩;exact yR k hr hpos hn))
   ·have e:aY p1 r=if L4.contains (r.drop 3)=true then r else iw p1 r:=by unfold aY;rw [h2];rfl
    refine .set rfl (.tryK (fun ρ σ=>KB r 3 (e9 y p1 p2) ρ σ∧aY p1 r=bL p1 3 r) (.iteF rfl (.iteF rfl (.iteT rfl (G6 k hr hn (fun ρ σ h=>?_) fun h ρ σ h2=>⟨h2,e.trans h⟩)))) (by rintro ρ σ ⟨⟨⟨b1,b9,rfl⟩,c,rfl⟩,e⟩;rw [e];exact yR k hr hpos hn))
    repeat (refine RB.nil ?_)
    exact .brk (PM.brk (ρ:=[]) (e▸h))
 ·obtain ⟨h1,h2⟩:=p
  rcases h1 with ⟨v,rfl⟩ | rfl
  ·exact h2
  ·exact .ret rfl h2
end
section
variable {k n:Nat}{w s:List Nat}{c l lb bra ket:Int}{ex:ah}{r b q:List Nat}{y:Bool}{p1 p2:Nat}{rest:List S}{ρ:Rho}{Q:aP}{σ:St}
theorem yT {t:Nat→Bool}{s:V}(k:Nat) (g:Grp s t) (hb:b.length<900):aA ((GG (k+1)).Φ 17) [.obj 0,s] (sP r b lb bra ket ex) fun v σ=>v = .bool (goF t r b).1∧σ=sP (goF t r b).2.1 (goF t r b).2.2 lb bra ket ex:=by
 refine aw rfl (.whl ?_)
 have loop:∀ (b r:List Nat) (m:Nat),b.length<m→RW (GG k) aO (.cmp .lt (.attr (.loc 0) 1) (.attr (.loc 0) 2)) [.ite (.cmp .isin (.idx (.attr (.loc 0) 0) (.attr (.loc 0) 1)) (.loc 1)) [.ret (.bool true)] [],.augA (.loc 0) 1 .add (.int 1)] m [some (.obj 0),some s] (sP r b lb bra ket ex)
  (bW (fun ρ σ=>RB (GG k) aO [.ret (.bool false)] ρ σ (dN fun v σ=>v = .bool (goF t r b).1∧σ=sP (goF t r b).2.1 (goF t r b).2.2 lb bra ket ex)) (dN fun v σ=>v = .bool (goF t r b).1∧σ=sP (goF t r b).2.1 (goF t r b).2.2 lb bra ket ex)):=by
  intro b
  induction b with
  | nil=>intro r m hm;cases m with
   | zero=>contradiction
   | succ m=>exact .done (cG rfl (by simp)) (.ret rfl ⟨rfl,rfl⟩)
  | cons x b ih=>intro r m hm;cases m with
   | zero=>contradiction
   | succ m =>
    refine .turn (cA rfl (by rw [List.length_cons];omega)) (.ite (lx g rfl rfl (je r b x) rfl (.inl ⟨rfl,rfl⟩)) (fun h=>?_) fun h=>?_)
    ·rw [show goF t r (x :: b)=_ from if_pos h]
     exact .ret rfl ⟨rfl,rfl⟩
    ·rw [show goF t r (x :: b)=_ from if_neg (ne_true_of_eq_false h)]
     refine .nil (.add1 rfl rfl rfl ?_)
     rw [gm]
     exact .nil (ih _ _ (Nat.lt_of_succ_lt_succ hm))
 exact loop b r 1000 (aaf (by assumption) (by decide))
theorem s7 (t:Nat→Bool):∀ (b r:List Nat),(goF t r b).1 = !(b.dropWhile fun x=>!t x).isEmpty∧(goF t r b).2.2=b.dropWhile (fun x=>!t x)∧(goF t r b).2.1.reverse++(goF t r b).2.2=r.reverse++b
 | [],r=>⟨rfl,rfl,rfl⟩
 | x :: b,r=>by
  cases h:t x with
  | true =>
   rw [show goF t r (x :: b)=_ from if_pos h,List.dropWhile_cons_of_neg (by rw [h];decide)]
   exact ⟨rfl,rfl,rfl⟩
  | false =>
   rw [show goF t r (x :: b)=_ from if_neg (ne_true_of_eq_false h),List.dropWhile_cons_of_pos (by rw [h];rfl)]
   obtain ⟨h1,h2,h3⟩:=s7 t b (x :: r)
   exact ⟨h1,h2,h3.trans (by rw [List.reverse_cons,aap];rfl)⟩
noncomputable def hop (b:List Nat):Option (List Nat):=match (b.dropWhile nv).dropWhile vow with
 | []=>none
 | _ :: b'=>some b'
theorem yU (k:Nat) (hx:cz ex) (h0:bo ρ) (hb:b.length<900) (hF:∀ r' b',r'.reverse++b'=r.reverse++b→hop b=none→Q (.exc 0) ρ (sP r' b' lb bra ket ex)) (hT:∀ r' b',r'.reverse++b'=r.reverse++b→hop b=some b'→RB (GG (k+1)) n rest ρ (sP r' b' lb bra ket ex) Q) :
 RB (GG (k+1)) n (.ite (.not (.meth (.loc 0) 17 [.cat 1])) [.raise 0] [] :: .augA (.loc 0) 1 .add (.int 1) :: .ite (.not (.meth (.loc 0) 15 [.cat 1])) [.raise 0] [] :: .augA (.loc 0) 1 .add (.int 1) :: rest) ρ (sP r b lb bra ket ex) Q:=by
 obtain ⟨g1,g2,g3⟩:=s7 vow b r
 refine .notM (yT k gF hb) (by decide) hx h0 rfl (fun q σ e=>.raise rfl ?_) fun q σ e=>?_
 ·rw [e]
  refine hF _ _ g3 ?_
  rw [g1] at q
  unfold hop
  have:b.dropWhile nv=[]:=by cases z:b.dropWhile nv with
   | nil=>rfl
   | cons a l=>rw [show (b.dropWhile fun x=>!vow x)=a :: l from z] at q;injection q
  rw [this];rfl
 ·rw [e]
  rw [g1] at q
  generalize (goF vow r b).2.1=r1 at g3
  generalize (goF vow r b).2.2=b1 at g2 g3
  cases b1 with
  | nil=>rw [← g2] at q;injection q
  | cons x b1 =>
   have hx1:vow x=true:=by
    have:=List.head?_dropWhile_not (fun x=>!vow x) b
    rw [← g2] at this;simpa using this
   refine .add1 rfl h0 rfl ?_
   rw [gm]
   have l1:b1.length<900:=by
    have:(b.dropWhile fun x=>!vow x).length≤b.length:=(List.dropWhile_suffix _).length_le
    rw [← g2,List.length_cons] at this;lia
   obtain ⟨f1,f2,f3⟩:=s7 (fun x=>!vow x) b1 (x :: r1)
   have nn:(fun x=>!!vow x)=vow:=funext fun x=>Bool.not_not _
   rw [nn] at f1 f2
   have e1:(b.dropWhile nv).dropWhile vow=b1.dropWhile vow:=by
    rw [show b.dropWhile nv=x :: b1 from g2.symm,List.dropWhile_cons_of_pos hx1]
   have g4:(x :: r1).reverse++b1=r.reverse++b:=by rw [← g3,List.reverse_cons,aap];rfl
   refine .notM (lL k gF l1) (by decide) hx h0 rfl (fun q σ e=>.raise rfl ?_) fun q σ e=>?_
   ·rw [e]
    refine hF _ _ (f3.trans g4) ?_
    rw [f1] at q
    unfold hop
    rw [e1]
    cases z:b1.dropWhile vow with
    | nil=>rfl
    | cons a l=>rw [z] at q;injection q
   ·rw [e]
    rw [f1] at q
    generalize (goF (fun x=>!vow x) (x :: r1) b1).2.1=r2 at f3
    generalize (goF (fun x=>!vow x) (x :: r1) b1).2.2=b2 at f2 f3
    cases b2 with
    | nil=>rw [← f2] at q;injection q
    | cons z b2 =>
     refine .add1 rfl h0 rfl ?_
     rw [gm]
     refine hT _ _ ?_ ?_
     ·rw [← g4,← f3,List.reverse_cons,aap];rfl
     ·unfold hop
      rw [e1,← f2]
theorem gO (b:List Nat):aZ b=match hop b with | none=>b.length | some b'=>b.length - b'.length:=by
 unfold aZ hop
 show b.length - ((b.dropWhile nv).dropWhile vow).tail.length=_
 cases (b.dropWhile nv).dropWhile vow<;>rfl
end
noncomputable def Ex (y:Bool) (ex:ah):Prop:=ex=[(6,.bool y)]∨∃ a b:Int,ex=e9 y a b
section
variable {k n:Nat}{w s:List Nat}{c l lb bra ket i j:Int}{ex:ah}{r b q t:List Nat}{y:Bool}{p1 p2:Nat}{rest:List S}{ρ:Rho}{Q:aP}{σ:St}
theorem RB.set78 {G:Sg}(hP:G.P=P2) (h:bo ρ) (hE:Ex y ex) (k:RB G n rest ρ (st w c l lb bra ket (e9 y l l)) Q):RB G n (.setA (.loc 0) 7 (.attr (.loc 0) 2) :: .setA (.loc 0) 8 (.attr (.loc 0) 2) :: rest) ρ (st w c l lb bra ket ex) Q:=by
 have e2:∀ ex,ev G ρ (st w c l lb bra ket ex) (.attr (.loc 0) 2)=some (.int l,st w c l lb bra ket ex):=fun ex=>by
  show (ev G ρ _ (.loc 0)).bind _=_
  rw [dJ h];show (cL G.P _ _ 2).map _=_
  rw [hP];rfl
 rcases hE with rfl | ⟨a,b,rfl⟩
 ·exact .step (σ':=st w c l lb bra ket [(6,.bool y),(7,.int l)]) (cf h (e2 _) (by rw [hP];rfl)) (.step (cf h (e2 _) (by rw [hP];rfl)) k)
 ·exact .step (σ':=st w c l lb bra ket (e9 y l b)) (cf h (e2 _) (by rw [hP];rfl)) (.step (cf h (e2 _) (by rw [hP];rfl)) k)
theorem s8 {G:Sg}(hP:G.P=P2) (h:bo ρ):ev G ρ (st w c l lb bra ket ex) (.attr (.loc 0) 1)=some (.int c,st w c l lb bra ket ex):=by
 show (ev G ρ _ (.loc 0)).bind _=_
 rw [dJ h];show (cL G.P _ _ 1).map _=_
 rw [hP];rfl
theorem RB.set7 {G:Sg}(hP:G.P=P2) (h:bo ρ) (k:RB G n rest ρ (st w c l lb bra ket (e9 y c j)) Q):RB G n (.setA (.loc 0) 7 (.attr (.loc 0) 1) :: rest) ρ (st w c l lb bra ket (e9 y i j)) Q:=.step (cf h (s8 hP h) (by rw [hP];rfl)) k
theorem RB.set8 {G:Sg}(hP:G.P=P2) (h:bo ρ) (k:RB G n rest ρ (st w c l lb bra ket (e9 y i c)) Q):RB G n (.setA (.loc 0) 8 (.attr (.loc 0) 1) :: rest) ρ (st w c l lb bra ket (e9 y i j)) Q:=.step (cf h (s8 hP h) (by rw [hP];rfl)) k
theorem tc {w w':List Nat}{c c' l l':Int}{ex ex':ah}(h1:w=w') (h2:c=c') (h3:l=l') (h4:ex=ex'):st w c l lb bra ket ex=st w' c' l' lb bra ket ex':=by rw [h1,h2,h3,h4]
noncomputable def KR (t:List Nat) (lb:Int) (y:Bool):Rho→St→Prop:=fun ρ' σ'=>(∃ v,ρ'=[some (.obj 0),some (.int 0),v])∧∃ c bra ket:Int,σ'=st t c t.length lb bra ket (e9 y (first t) (az t))
theorem jn {r b:List Nat}(h:r.reverse++b=t):r.length+b.length=t.length:=by rw [← h,List.length_append,aad]
theorem xm (h:a8.find? (fun f=>f.isPrefixOf t)=none):first t=aZ t:=by unfold first;rw [h]
theorem qk (k:Nat) {v:Option V}(ht:t.length<900) (h:r.reverse++b=t) (hf:r.length=first t) (hN:∀ ρ σ,KR t lb y ρ σ→Q .next ρ σ) (hX:∀ ρ σ,KR t lb y ρ σ→Q (.exc 0) ρ σ) :
 RB (GG (k+1)) aO (.setA (.loc 0) 7 (.attr (.loc 0) 1) :: .ite (.not (.meth (.loc 0) 17 [.cat 1])) [.raise 0] [] :: .augA (.loc 0) 1 .add (.int 1) :: .ite (.not (.meth (.loc 0) 15 [.cat 1])) [.raise 0] [] :: .augA (.loc 0) 1 .add (.int 1) :: [.setA (.loc 0) 8 (.attr (.loc 0) 1)]) [some (.obj 0),some (.int 0),v] (sP r b lb bra ket (e9 y i t.length)) Q:=by
 have lt:=jn h
 have db:t.drop (first t)=b:=by rw [← hf,← h,List.drop_left' (aad ..)]
 have sec:az t=r.length+aZ b:=by unfold az;rw [db,hf]
 refine .set7 rfl rfl (yU k ok9 rfl (by lia) (fun r' b' e q=>hX _ _ ⟨⟨_,rfl⟩,_,_,_,tc (e.trans h) rfl (by rw [jn (e.trans h)]) ?_⟩) fun r' b' e q=>.set8 rfl rfl (.nil (hN _ _ ⟨⟨_,rfl⟩,_,_,_,tc (e.trans h) rfl (by rw [jn (e.trans h)]) ?_⟩)))
 ·rw [sec,gO,q,lt,hf]
 ·have l2:=jn (e.trans h)
  have l3:b'.length≤b.length:=by
   unfold hop at q
   have m1:=(List.dropWhile_suffix (l:=b) nv).length_le
   have m2:=(List.dropWhile_suffix (l:=b.dropWhile nv) vow).length_le
   cases z:(b.dropWhile nv).dropWhile vow with
   | nil=>rw [z] at q;injection q
   | cons a d=>rw [z] at q m2;injection q;rw [List.length_cons] at m2;lia
  have:az t=r'.length:=by rw [sec,gO,q];show r.length+(b.length - b'.length)=_;lia
  rw [this,hf]
theorem sP0:st t 0 t.length lb bra ket ex=sP [] t lb bra ket ex:=bU rfl rfl (by rw [List.length_nil,Nat.zero_add])
theorem gP:((a8.all fun f=>(tb0.map bI).any fun e=>e.1==f)&&((tb0.map bI).all fun e=>a8.contains e.1&&!(e.2==0))&&(a8.all fun f=>a8.all fun g=>f==g||!f.isPrefixOf g))=true:=by decide +kernel
theorem oE:match ae (tb0.map bI) t with
 | none=>a8.find? (fun f=>f.isPrefixOf t)=none
 | some x=>first t=x.1.length:=by
 obtain ⟨k12,k3⟩:=aac.mp gP
 obtain ⟨k1,k2⟩:=aac.mp k12
 cases hb:ae (tb0.map bI) t with
 | none =>
  show a8.find? _=none
  rw [List.find?_eq_none]
  intro f hf hp
  obtain ⟨e,he,es⟩:=List.any_eq_true.mp (aab.mp k1 f hf)
  exact bl hb e he (by rw [eq_of_beq es];exact aae.mp hp)
 | some x =>
  show first t=x.1.length
  obtain ⟨hm,hp⟩:=aa hb
  have hx:=aak.mp (aac.mp (aab.mp k2 x hm)).1
  unfold first
  cases hf:a8.find? (fun f=>f.isPrefixOf t) with
  | none=>exact absurd (aae.mpr hp) (List.find?_eq_none.mp hf _ hx)
  | some f =>
   have fm:=List.mem_of_find?_eq_some hf
   have fp:=aae.mp (List.find?_some (p:=fun f:List Nat=>f.isPrefixOf t) hf)
   show f.length=_
   rcases Nat.le_total f.length x.1.length with q | q
   ·have:=aab.mp (aab.mp k3 f fm) _ hx
    rw [aae.mpr (List.prefix_of_prefix_length_le fp hp q),Bool.not_true,Bool.or_false] at this
    rw [eq_of_beq this]
   ·have:=aab.mp (aab.mp k3 _ hx) f fm
    rw [aae.mpr (List.prefix_of_prefix_length_le hp fp q),Bool.not_true,Bool.or_false] at this
    rw [eq_of_beq this]
theorem xn (k:Nat) (hE:Ex y ex) (ht:t.length<900):aA ((GG (k+2)).Φ 28) [.obj 0] (st t 0 t.length lb bra ket ex) fun zz σ=>∃ bra ket:Int,σ=st t 0 t.length lb bra ket (e9 y (first t) (az t)):=by
 refine aw rfl (.set78 rfl rfl hE (.set rfl (.tryK (KR t lb y) ?_ ?_)))
 ·rw [sP0]
  refine .once (.set rfl (.tryK (fun ρ' σ'=>ρ'=[some (.obj 0),some (.int 0),some (.int 0)]∧σ'=sP [] t lb bra ket (e9 y t.length t.length)∧a8.find? (fun f=>f.isPrefixOf t)=none) ?_ ?_))
  ·refine .eq0M (jX (tbl:=tb0) (a:=340) k (by decide) vv.1) (by decide) ok9 rfl rfl (fun q σ e=>.raise rfl ⟨rfl,?_,?_⟩) fun q σ e=>?_
   ·cases hb:ae (tb0.map bI) t with
    | none=>rw [e,hb];rfl
    | some x =>
     rw [hb] at q
     have:=(aac.mp (aab.mp (aac.mp (aac.mp gP).1).2 x (aa hb).1)).2
     rw [show x.2=0 from q] at this;injection this
   ·cases hb:ae (tb0.map bI) t with
    | none=>have:=oE (t:=t);rw [hb] at this;exact this
    | some x =>
     rw [hb] at q
     have:=(aac.mp (aab.mp (aac.mp (aac.mp gP).1).2 x (aa hb).1)).2
     rw [show x.2=0 from q] at this;injection this
   ·cases hb:ae (tb0.map bI) t with
    | none=>rw [hb] at q;exact absurd rfl q
    | some x =>
     rw [e,hb]
     have fl:first t=x.1.length:=by have:=oE (t:=t);rw [hb] at this;exact this
     have hl:=(aa hb).2.length_le
     refine .brk (qk k ht ?_ ?_ (fun zz zz h=>h) fun zz zz h=>h)
     ·rw [List.append_nil,aaq];exact List.take_append_drop _ _
     ·rw [List.append_nil,aad,List.length_take,fl];exact Nat.min_eq_left hl
  ·rintro ρ σ ⟨rfl,rfl,hn⟩
   have fb:=xm hn
   refine .set1 rfl rfl rfl (yU (r:=[]) (b:=t) k ok9 rfl ht (fun r' b' e q=>?_) fun r' b' e q=>?_)
   ·have f1:first t=t.length:=by rw [fb,gO,q]
    have f2:az t=t.length:=by
     unfold az
     rw [f1,List.drop_length];rfl
    exact ⟨⟨_,rfl⟩,_,_,_,tc e rfl (by rw [jn e];rfl) (by rw [f1,f2])⟩
   ·have f1:first t=t.length - b'.length:=by rw [fb,gO,q]
    have:=jn (t:=t) e
    exact .brk (qk k ht e (by lia) (fun zz zz h=>h) fun zz zz h=>h)
 ·rintro ρ σ ⟨⟨v,rfl⟩,c,bra,ket,rfl⟩
  exact .set1 rfl rfl rfl (.ret rfl ⟨_,_,rfl⟩)
end
section
variable {k n:Nat}{w s u v:List Nat}{c l lb bra ket i j:Int}{ex:ah}{r b q t:List Nat}{y:Bool}{p1 p2 z z' ch:Nat}{rest:List S}{ρ:Rho}{Q:aP}{σ:St}
theorem oF {w w':List Nat}{c c' l l' bra' ket':Int}(h1:w=w') (h2:c=c') (h3:l=l') (h4:bra=bra') (h5:ket=ket'):st w c l lb bra ket ex=st w' c' l' lb bra' ket' ex:=by rw [h1,h2,h3,h4,h5]
theorem AD {a:Nat} : kz c a (a+1) 1=c:=by
 unfold kz
 by_cases h:c≥((a+1:Nat):Int)
 ·rw [if_pos h];lia
 ·rw [if_neg h,if_neg (by assumption)]
theorem kD (k:Nat) (hx:cz ex) (hw:u.length+v.length≤1900) (hl:l=(u.length+1+v.length:Nat)) (hb:bra=u.length) (hk:ket=(u.length+1:Nat)):aA ((GG (k+2)).Φ 24) [.obj 0,.str [z']] (st (u++z :: v) c l lb bra ket ex) fun zz σ=>σ=st (u++z' :: v) c l lb bra ket ex:=by
 subst hb hk hl
 have e:(u++z :: v).length=u.length+1+v.length:=by rw [List.length_append,List.length_cons];lia
 have:=eN (w:=u++z :: v) (s:=[z']) (c:=c) (lb:=lb) (a:=u.length) (b:=u.length+1) (ex:=ex) k hx (Nat.le_add_right _ _) (by omega) (by rw [e];show _+1≤_;lia)
 rw [e] at this
 refine this.mono fun v' σ h=>h.2.trans (oF ?_ AD ?_ rfl ?_)
 ·rw [List.take_left' rfl,← List.drop_drop,List.drop_left' rfl,aap];rfl
 ·show ((u.length+1+v.length:Nat):Int)+(((1:Nat):Int) - (((u.length+1:Nat):Int) - u.length))=_
  omega
 ·show (u.length:Int)+((1:Nat):Int)=((u.length+1:Nat):Int)
  lia
theorem jo {G:Sg}(hP:G.P=P2) (h0:bo ρ):ev G ρ (sP r b lb bra ket ex) (.disj [.cmp .eq (.attr (.loc 0) 1) (.attr (.loc 0) 2),.cmp .ne (.idx (.attr (.loc 0) 0) (.attr (.loc 0) 1)) (.str [ch])])=some (.bool (!hd ch b),sP r b lb bra ket ex):=by
 have at_:∀ a v,cL P2 (sP r b lb bra ket ex) (.obj 0) a=some v→ev G ρ (sP r b lb bra ket ex) (.attr (.loc 0) a)=some (v,sP r b lb bra ket ex):=fun a v h=>by
  show (ev G ρ _ (.loc 0)).bind _=_
  rw [dJ h0];show (cL G.P _ _ a).map _=_
  rw [hP,h];rfl
 have h1:=at_ 1 _ rfl
 have h2:=at_ 2 _ rfl
 have hw:=at_ 0 _ rfl
 have c1:ev G ρ (sP r b lb bra ket ex) (.cmp .eq (.attr (.loc 0) 1) (.attr (.loc 0) 2))=some (.bool ((r.length:Int)==(r.length+b.length:Nat)),sP r b lb bra ket ex):=by
  show (ev G ρ _ (.attr (.loc 0) 1)).bind _=_
  rw [h1];show (ev G ρ _ (.attr (.loc 0) 2)).bind _=_
  rw [h2];rfl
 show ((ev G ρ (sP r b lb bra ket ex) (.cmp .eq (.attr (.loc 0) 1) (.attr (.loc 0) 2))).bind _).map _=_
 rw [c1]
 cases b with
 | nil=>rw [show ((r.length:Int)==(r.length+([]:List Nat).length:Nat))=true by rw [beq_iff_eq,List.length_nil];lia];rfl
 | cons x b =>
  rw [show ((r.length:Int)==(r.length+(x :: b).length:Nat))=false by rw [beq_eq_false_iff_ne,List.length_cons];omega]
  show ((ev G ρ _ (.cmp .ne _ _)).bind _).map _=_
  have c2:ev G ρ (sP r (x :: b) lb bra ket ex) (.cmp .ne (.idx (.attr (.loc 0) 0) (.attr (.loc 0) 1)) (.str [ch]))=some (.bool (!([x]==[ch])),sP r (x :: b) lb bra ket ex):=by
   show (ev G ρ _ (.idx _ _)).bind _=_
   rw [bJ (je r b x) hw h1];rfl
  rw [c2]
  have:([x]==[ch])=(x==ch):=by show (x==ch&&true)=_;rw [Bool.and_true]
  rw [this]
  show _=some (V.bool (!(x==ch)),_)
  cases x==ch<;>rfl
noncomputable def fin:List Nat→List Nat
 | []=>[]
 | x :: b=>x :: Eng.av (some x) b
theorem vB {x:Nat}(h:vow x=false∨hd 121 b=false):fin (x :: b)=x :: fin b:=by
 cases b with
 | nil=>rfl
 | cons c b =>
  have:mk1 (some x) c=c:=by
   unfold mk1
   show (if (c==121&&vow x)=true then 89 else c)=c
   rw [if_neg]
   rcases h with h | h
   ·rw [h,Bool.and_false];exact aaj
   ·rw [show (c==121)=false from h];exact aaj
  show x :: mk1 (some x) c :: Eng.av (some (mk1 (some x) c)) b=_
  rw [this];rfl
theorem C0 {x:Nat}(h:vow x=true):fin (x :: 121 :: b)=fin (x :: 89 :: b):=by
 show x :: mk1 (some x) 121 :: Eng.av (some (mk1 (some x) 121)) b=x :: mk1 (some x) 89 :: Eng.av (some (mk1 (some x) 89)) b
 have e1:mk1 (some x) 121=89:=by unfold mk1;show (if (true&&vow x)=true then 89 else 121)=89;rw [h];rfl
 rw [e1];rfl
noncomputable def qP:List S:=[.set 5 (.attr (.loc 0) 1),
 .try1 [.ite (.not (.meth (.loc 0) 14 [.cat 1])) [.raise 2] [],
  .setA (.loc 0) 4 (.attr (.loc 0) 1),
  .ite (.disj [.cmp .eq (.attr (.loc 0) 1) (.attr (.loc 0) 2),.cmp .ne (.idx (.attr (.loc 0) 0) (.attr (.loc 0) 1)) (.str [121])]) [.raise 2] [],
  .augA (.loc 0) 1 .add (.int 1),
  .setA (.loc 0) 5 (.attr (.loc 0) 1),
  .setA (.loc 0) 1 (.loc 5),
  .brk] 2,
 .setA (.loc 0) 1 (.loc 5),
 .ite (.cmp .ge (.attr (.loc 0) 1) (.attr (.loc 0) 2)) [.raise 1] [],
 .augA (.loc 0) 1 .add (.int 1)]
noncomputable def rP (z1 z2 z3 z4 z5:Option V):Rho:=[some (.obj 0),z1,z2,z3,z4,z5]
theorem td (k:Nat) (hx:cz ex) {z1 z2 z3 z4:Option V} : ∀ (b r:List Nat) (m:Nat) (z5:Option V) (bra ket:Int),b.length<m →
 (∀ z5 r' bra ket,r'.reverse=r.reverse++b→fin b=b→Q (.exc 1) (rP z1 z2 z3 z4 z5) (sP r' [] lb bra ket ex)) →
 (∀ a x b2 z5,b=a++x :: 121 :: b2→vow x=true→fin b=a++fin (x :: 121 :: b2)→Q .next (rP z1 z2 z3 z4 z5) (sP (a.reverse++r) (x :: 121 :: b2) lb (((a.reverse++r).length:Int)+1) (((a.reverse++r).length:Int)+1+1) ex)) →
 RW (GG (k+1)) aO (.bool true) qP m (rP z1 z2 z3 z4 z5) (sP r b lb bra ket ex) Q
 | _,_,0,_,_,_,h,_,_=>absurd h (Nat.not_lt_zero _)
 | [],r,m+1,z5,bra,ket,hm,hX,hB=>by
  refine .turn rfl (.set rfl (.try1 (.notM (fU k gF) (by decide) hx rfl rfl (fun q σ e=>.raise rfl ?_) fun q=>by injection q)))
  rw [e]
  exact .set1 rfl rfl rfl (.iteT (cA rfl sL) (.raise rfl (hX _ r _ _ (List.append_nil _).symm rfl)))
 | x :: b,r,m+1,z5,bra,ket,hm,hX,hB=>by
  have next:∀ bra ket,(vow x=false∨hd 121 b=false)→RW (GG (k+1)) aO (.bool true) qP m (rP z1 z2 z3 z4 (some (.int r.length))) (sP (x :: r) b lb bra ket ex) Q:=fun bra ket hno=>by
   refine td k hx b (x :: r) m _ bra ket (Nat.lt_of_succ_lt_succ hm) (fun z5 r' bra ket e f=>hX z5 r' bra ket (by rw [e,List.reverse_cons,aap];rfl) (by rw [vB hno,f])) fun a x' b2 z5 e hv f=>?_
   have:=hB (x :: a) x' b2 z5 (by rw [e];rfl) hv (by rw [vB hno,f];rfl)
   rw [List.reverse_cons,aap] at this
   exact this
  have adv:∀ bra ket,(vow x=false∨hd 121 b=false)→RB (GG (k+1)) aO [.setA (.loc 0) 1 (.loc 5),.ite (.cmp .ge (.attr (.loc 0) 1) (.attr (.loc 0) 2)) [.raise 1] [],.augA (.loc 0) 1 .add (.int 1)] (rP z1 z2 z3 z4 (some (.int r.length))) (sP r (x :: b) lb bra ket ex) (n8 (fun ρ σ=>RW (GG (k+1)) aO (.bool true) qP m ρ σ Q) Q):=fun bra ket hno=>by
   refine .set1 rfl rfl rfl (.skip (cG rfl ly) (.add1 rfl rfl rfl ?_))
   rw [gm]
   exact .nil (next _ _ hno)
  cases hv:vow x with
  | false =>
   refine .turn rfl (.set rfl (.try1 (.notM (fU k gF) (by decide) hx rfl rfl (fun q σ e=>.raise rfl ?_) fun q=>?_)))
   ·rw [e,show inF vow r (x :: b)=_ from if_neg (ne_true_of_eq_false hv)]
    exact adv _ _ (.inl hv)
   ·rw [show inF vow r (x :: b)=_ from if_neg (ne_true_of_eq_false hv)] at q;injection q
  | true =>
   refine .turn rfl (.set rfl (.try1 (.notM (fU k gF) (by decide) hx rfl rfl (fun q=>?_) fun q σ e=>?_)))
   ·rw [show inF vow r (x :: b)=_ from if_pos hv] at q;injection q
   ·rw [e,show inF vow r (x :: b)=_ from if_pos hv]
    refine .set4 rfl rfl rfl (.ite (jo rfl rfl) (fun h=>.raise rfl ?_) fun h=>.nil ?_)
    ·refine .set1 rfl rfl rfl ?_
     have e:st ((x :: r).reverse++b) r.length ((x :: r).length+b.length:Nat) lb ((x :: r).length:Nat) ket ex=sP r (x :: b) lb ((x :: r).length:Nat) ket ex:=bU (by simp) rfl (by simp;lia)
     show RB _ _ _ _ (st ((x :: r).reverse++b) r.length ((x :: r).length+b.length:Nat) lb ((x :: r).length:Nat) ket ex) _
     rw [e]
     refine .skip (cG rfl ly) (.add1 rfl rfl rfl ?_)
     rw [gm]
     exact .nil (next _ _ (.inr (cB h)))
    ·obtain ⟨b2,rfl⟩:=gY (dq h)
     refine .add1 rfl rfl rfl (.set5 rfl rfl rfl (.set1 rfl rfl rfl (.brk ?_)))
     have:=hB [] x b2 (some (.int r.length)) rfl hv rfl
     have e:sP r (x :: 121 :: b2) lb ((r.length:Int)+1) ((r.length:Int)+1+1) ex=st ((x :: r).reverse++121 :: b2) r.length ((x :: r).length+(121 :: b2).length:Nat) lb ((x :: r).length:Nat) (((x :: r).length:Nat)+1:Int) ex:=oF (by simp) rfl (by simp;lia) rfl rfl
     exact e▸this
end
structure Fam (E:Bool→ah):Prop where
 ok:∀ y,cz (E y)
 set:∀ w c l lb bra ket y y',ij P2 (st w c l lb bra ket (E y)) (.obj 0) 6 (.bool y')=some (st w c l lb bra ket (E y'))
 ex:∀ y,Ex y (E y)
theorem HK:Fam fun y=>[(6,.bool y)]:=⟨fun y m=>rfl,fun zz zz zz zz zz zz zz zz=>rfl,fun zz=>.inl rfl⟩
theorem HL {a b:Int} : Fam fun y=>e9 y a b:=⟨fun y m=>rfl,fun zz zz zz zz zz zz zz zz=>rfl,fun zz=>.inr ⟨_,_,rfl⟩⟩
noncomputable def G7:List S:=[.set 4 (.attr (.loc 0) 1),.try1 [.whl (.bool true) qP,.expr (.meth (.loc 0) 24 [.str [89]]),.setA (.loc 0) 6 (.bool true),.cont] 1,.setA (.loc 0) 1 (.loc 4),.brk]
section
variable {k n:Nat}{w s u v:List Nat}{c l lb bra ket i j:Int}{ex:ah}{r b q t W:List Nat}{y:Bool}{p1 p2 z z' ch:Nat}{rest:List S}{ρ:Rho}{Q:aP}{σ:St}{E:Bool→ah}{z1 z2 z3:Option V}
theorem RB.set6 {G:Sg}{y':Bool}(hP:G.P=P2) (F:Fam E) (h:bo ρ) (k:RB G n rest ρ (st w c l lb bra ket (E y')) Q):RB G n (.setA (.loc 0) 6 (.bool y') :: rest) ρ (st w c l lb bra ket (E y)) Q:=.step (cf h rfl (by rw [hP];exact F.set ..)) k
theorem tf (k:Nat) (F:Fam E):∀ (m:Nat) (b r:List Nat) (y:Bool) (bra ket:Int) (z4 z5:Option V),r.length+b.length<900→b.count 121<m→W=r.reverse++fin b→(y=true→W≠t)→(y=false→r.reverse++b=t) →
 (∀ z4 z5 c bra ket y,(y=true→W≠t)→(y=false→W=t)→Q .next (rP z1 z2 z3 z4 z5) (st W c W.length lb bra ket (E y))) →
 RW (GG (k+3)) aO (.bool true) G7 m (rP z1 z2 z3 z4 z5) (sP r b lb bra ket (E y)) Q
 | 0,_,_,_,_,_,_,_,_,h,_,_,_,_=>absurd h (Nat.not_lt_zero _)
 | m+1,b,r,y,bra,ket,z4,z5,hl,hm,hW,hy,hn,hQ=>by
  refine .turn rfl (.set rfl (.try1 (.whl (td (k+2) (F.ok y) b r 1000 z5 bra ket (by omega) (fun z5 r' bra ket e f=>?_) fun a x b2 z5 e hv f=>?_))))
  ·have e2:r'.reverse=W:=by rw [hW,f,e]
   refine .set1 rfl rfl rfl (.brk ?_)
   have:=hQ (some (.int r.length)) z5 r.length bra ket y hy fun h=>by rw [hW,f,hn h]
   have e3:st (r'.reverse++[]) r.length (r'.length+([]:List Nat).length:Nat) lb bra ket (E y)=st W r.length W.length lb bra ket (E y):=bU (by rw [List.append_nil,e2]) rfl (by rw [← e2,aad];rfl)
   exact e3▸this
  ·have hl2:(a.reverse++r).length+(x :: 89 :: b2).length<900:=by
    rw [e] at hl
    simp only [List.length_append,List.length_cons,aad] at hl ⊢;lia
   generalize hR:a.reverse++r=R at hl2
   have hR2:R.reverse=r.reverse++a:=by rw [← hR,List.reverse_append,aaq]
   have g:=kD (u:=R.reverse++[x]) (v:=b2) (z:=121) (z':=89) (c:=R.length) (l:=(R.length+(x :: 121 :: b2).length:Nat)) (lb:=lb) (bra:=(R.length:Int)+1) (ket:=(R.length:Int)+1+1) (ex:=E y) (k+1) (F.ok y) (by simp only [List.length_append,List.length_cons,aad,List.length_nil] at hl2 ⊢;lia) (by simp only [List.length_append,List.length_cons,aad,List.length_nil];lia) (by simp) (by simp)
   rw [← List.append_cons,← List.append_cons] at g
   have hW2:W=R.reverse++fin (x :: 89 :: b2):=by rw [hW,f,hR2,C0 hv,aap]
   refine .callM g rfl (F.ok y) rfl rfl fun v σ h=>h▸.set6 rfl F rfl (.cont ?_)
   refine tf k F m (x :: 89 :: b2) R true _ _ _ _ hl2 ?_ hW2 (fun zz=>?_) (fun h=>by injection h) hQ
   ·rw [e] at hm
    simp only [List.count_append,List.count_cons] at hm ⊢
    simp at hm ⊢;lia
   ·cases y with
    | true=>exact hy rfl
    | false =>
     intro h2
     have h3:=hn rfl
     rw [← h2,hW2,e,hR2,aap] at h3
     have h4:=List.append_cancel_left (List.append_cancel_left h3)
     exact absurd (List.cons.inj (List.cons.inj h4).2).1 (show ¬ (121:Nat)=89 by decide)
noncomputable def hm:List Nat→List Nat
 | []=>[]
 | c :: r=>mk1 none c :: r
theorem Fd:fin (hm t)=ad t:=by cases t<;>rfl
theorem vC (h:hd 121 t=false):hm t=t:=by
 cases t with
 | nil=>rfl
 | cons c r =>
  show mk1 none c :: r=c :: r
  have:mk1 none c=c:=by
   unfold mk1
   show (if (c==121&&true)=true then 89 else c)=c
   rw [show (c==121)=false from h];rfl
  rw [this]
noncomputable def BK (ex:ah) (E:Bool→ah):Prop:=Fam E∧∀ w c l lb bra ket,ij P2 (st w c l lb bra ket ex) (.obj 0) 6 (.bool false)=some (st w c l lb bra ket (E false))
theorem xo (k:Nat) (hs:BK ex E) (hw:w.length<800):aA ((GG (k+4)).Φ 27) [.obj 0] (st w 0 w.length lb bra ket ex) fun zz σ=>∃ (y:Bool) (bra ket:Int),σ=st (ad (aG w)) 0 (ad (aG w)).length lb bra ket (E y)∧(y=true→ad (aG w)≠aG w)∧(y=false→ad (aG w)=aG w):=by
 obtain ⟨F,hp⟩:=hs
 refine aw rfl (.step (cf rfl rfl (hp ..)) (.set rfl (.tryK (fun ρ' σ'=>ρ'=[some (.obj 0),some (.int 0),none,none,none,none]∧∃ c bra ket:Int,σ'=st (aG w) c (aG w).length lb bra ket (E false)) ?_ ?_)))
 ·rw [sP0]
  refine .set4 rfl rfl rfl (.ite (jo rfl rfl) (fun h=>.raise rfl ⟨rfl,([]:List Nat).length,([]:List Nat).length,ket,?_⟩) fun h=>.nil ?_)
  ·have:aG w=w:=by
    unfold aG
    split
    ·exact absurd (cB h) (fun q=>by injection q)
    ·rfl
   rw [this];exact bU rfl rfl (by simp)
  ·obtain ⟨t,rfl⟩:=gY (dq h)
   have ll:((([]:List Nat).length+(39 :: t).length:Nat):Int)=(39 :: t).length:=by simp
   refine .add1 rfl rfl rfl (.set5 rfl rfl rfl ?_)
   have g:=ir (w:=39 :: t) (c:=1) (lb:=lb) (a:=0) (b:=1) (ex:=E false) k (F.ok _) (by decide) (Nat.succ_pos _) (Nat.le_of_lt (Nat.lt_of_lt_of_le (by assumption) (by decide)))
   have e:st ([].reverse++39 :: t) ((([]:List Nat).length:Int)+1) (([]:List Nat).length+(39 :: t).length:Nat) lb ([]:List Nat).length ((([]:List Nat).length:Int)+1) (E false)=st (39 :: t) 1 (39 :: t).length lb ((0:Nat):Int) ((1:Nat):Int) (E false):=oF rfl rfl ll rfl rfl
   show RB _ _ _ _ (st ([].reverse++39 :: t) ((([]:List Nat).length:Int)+1) (([]:List Nat).length+(39 :: t).length:Nat) lb ([]:List Nat).length ((([]:List Nat).length:Int)+1) (E false)) _
   rw [e]
   refine .callM g rfl (F.ok _) rfl rfl fun v σ h=>.nil ⟨rfl,_,_,_,h.2.trans (bU rfl rfl ?_)⟩
   show ((t.length+1:Nat):Int)+(0 - (((1:Nat):Int) - ((0:Nat):Int)))=(t.length:Nat)
   lia
 ·have hq:(aG w).length<800:=by unfold aG;split<;>first | exact hw | (simp only [List.length_cons] at hw;exact Nat.le_of_lt (by assumption))
  generalize aG w=t at hq
  rintro ρ σ ⟨rfl,c,bra,ket,rfl⟩
  refine .set1 rfl rfl rfl (.set rfl (.tryK (fun ρ' σ'=>ρ'=[some (.obj 0),some (.int 0),some (.int 0),none,none,none]∧∃ (y:Bool) (c bra ket:Int),σ'=st (hm t) c (hm t).length lb bra ket (E y)∧(y=true→fin (hm t)≠t)∧(y=false→hm t=t)) ?_ ?_))
  ·rw [sP0]
   refine .set4 rfl rfl rfl (.ite (jo rfl rfl) (fun h=>.raise rfl ⟨rfl,false,([]:List Nat).length,([]:List Nat).length,ket,?_,(fun h=>by injection h),fun zz=>vC (cB h)⟩) fun h=>.nil ?_)
   ·rw [vC (cB h)];exact bU rfl rfl (by simp)
   ·obtain ⟨r,rfl⟩:=gY (dq h)
    refine .add1 rfl rfl rfl (.set5 rfl rfl rfl (.callM (kD (u:=[]) (v:=r) (z:=121) (z':=89) (k+1) (F.ok _) (by simp at hq ⊢;lia) (by simp;lia) rfl rfl) rfl (F.ok _) rfl rfl fun v σ h=>h▸.set6 rfl F rfl (.nil ⟨rfl,true,_,_,_,bU rfl rfl (by simp;rfl),fun zz h2=>?_,fun h=>by injection h⟩)))
    exact absurd (List.cons.inj h2).1 (by decide)
  ·have hh:(hm t).length<800:=by cases t<;>simp [hm] at hq ⊢;omega
   rintro ρ σ ⟨rfl,y,c,bra,ket,rfl,h1,h2⟩
   have ef:=Fd (t:=t)
   refine .set1 rfl rfl rfl (.set rfl (.tryK (fun ρ' σ'=>(∃ z4 z5,ρ'=rP (some (.int 0)) (some (.int 0)) (some (.int 0)) z4 z5)∧∃ (y:Bool) (c bra ket:Int),σ'=st (ad t) c (ad t).length lb bra ket (E y)∧(y=true→ad t≠t)∧(y=false→ad t=t)) ?_ ?_))
   ·rw [sP0]
    exact .whl (tf k F 1000 (hm t) [] y bra ket none none (by simp;exact aaf (by assumption) (by decide)) (by have:=List.count_le_length (a:=121) (l:=hm t);omega) ef.symm (fun h=>ef▸h1 h) h2 fun z4 z5 c bra ket y g1 g2=>.nil ⟨⟨_,_,rfl⟩,y,c,bra,ket,rfl,g1,g2⟩)
   ·rintro ρ σ ⟨⟨z4,z5,rfl⟩,y,c,bra,ket,rfl,g1,g2⟩
    exact .set1 rfl rfl rfl (.ret rfl ⟨_,_,_,rfl,g1,g2⟩)
end
noncomputable def BL:List S:=[.set 2 (.attr (.loc 0) 1),
 .try1 [.setA (.loc 0) 4 (.attr (.loc 0) 1),
  .ite (.disj [.cmp .eq (.attr (.loc 0) 1) (.attr (.loc 0) 2),.cmp .ne (.idx (.attr (.loc 0) 0) (.attr (.loc 0) 1)) (.str [89])]) [.raise 1] [],
  .augA (.loc 0) 1 .add (.int 1),
  .setA (.loc 0) 5 (.attr (.loc 0) 1),
  .setA (.loc 0) 1 (.loc 2),
  .brk] 1,
 .setA (.loc 0) 1 (.loc 2),
 .ite (.cmp .ge (.attr (.loc 0) 1) (.attr (.loc 0) 2)) [.raise 0] [],
 .augA (.loc 0) 1 .add (.int 1)]
noncomputable def G8:List S:=[.set 1 (.attr (.loc 0) 1),.try1 [.whl (.bool true) BL,.expr (.meth (.loc 0) 24 [.str [121]]),.cont] 0,.setA (.loc 0) 1 (.loc 1),.brk]
section
variable {k n:Nat}{w s u v:List Nat}{c l lb bra ket i j:Int}{ex:ah}{r b q t W:List Nat}{y:Bool}{p1 p2 z z' ch:Nat}{rest:List S}{ρ:Rho}{Q:aP}{σ:St}{z1 z2:Option V}
theorem xq {x:Nat}(h:hd 89 (x :: b)=false):small (x :: b)=x :: small b:=by
 show (if (x==89)=true then 121 else x) :: small b=_
 rw [show (x==89)=false from h];rfl
theorem BM (k:Nat):∀ (b r:List Nat) (m:Nat) (z2:Option V) (bra ket:Int),b.length<m →
 (∀ z2 r' bra ket,r'.reverse=r.reverse++b→small b=b→Q (.exc 0) [some (.obj 0),z1,z2] (sP r' [] lb bra ket ex)) →
 (∀ a b2 z2,b=a++89 :: b2→small a=a→Q .next [some (.obj 0),z1,z2] (sP (a.reverse++r) (89 :: b2) lb ((a.reverse++r).length:Int) (((a.reverse++r).length:Int)+1) ex)) →
 RW (GG k) aO (.bool true) BL m [some (.obj 0),z1,z2] (sP r b lb bra ket ex) Q
 | _,_,0,_,_,_,h,_,_=>absurd h (Nat.not_lt_zero _)
 | [],r,m+1,z2,bra,ket,hm,hX,hB=>.turn rfl (.set rfl (.try1 (.set4 rfl rfl rfl (.iteT (jo rfl rfl) (.raise rfl (.set1 rfl rfl rfl (.iteT (cA rfl sL) (.raise rfl (hX _ r _ _ (List.append_nil _).symm rfl)))))))))
 | x :: b,r,m+1,z2,bra,ket,hm,hX,hB=>by
  refine .turn rfl (.set rfl (.try1 (.set4 rfl rfl rfl (.ite (jo rfl rfl) (fun h=>.raise rfl ?_) fun h=>.nil ?_))))
  ·have h:=cB h
   refine .set1 rfl rfl rfl (.skip (cG rfl ly) (.add1 rfl rfl rfl ?_))
   rw [gm]
   refine .nil (BM k b (x :: r) m _ _ ket (Nat.lt_of_succ_lt_succ hm) (fun z2 r' bra ket e f=>hX z2 r' bra ket (by rw [e,List.reverse_cons,aap];rfl) (by rw [xq h,f])) fun a b2 z2 e f=>?_)
   have:=hB (x :: a) b2 z2 (by rw [e];rfl) (by
    show (if (x==89)=true then 121 else x) :: small a=_
    rw [show (x==89)=false from h,f];rfl)
   rw [List.reverse_cons,aap] at this
   exact this
  ·have hx:=dq h
   obtain ⟨b2,e⟩:=gY hx
   obtain ⟨rfl,rfl⟩:=List.cons.inj e
   exact .add1 rfl rfl rfl (.set5 rfl rfl rfl (.set1 rfl rfl rfl (.brk (hB [] b _ rfl rfl))))
theorem BN (k:Nat) (hx:cz ex):∀ (m:Nat) (b r:List Nat) (bra ket:Int) (z1 z2:Option V),r.length+b.length<900→b.count 89<m→W=r.reverse++small b →
 (∀ z1 z2 c bra ket,Q .next [some (.obj 0),z1,z2] (st W c W.length lb bra ket ex)) →
 RW (GG (k+2)) aO (.bool true) G8 m [some (.obj 0),z1,z2] (sP r b lb bra ket ex) Q
 | 0,_,_,_,_,_,_,_,h,_,_=>absurd h (Nat.not_lt_zero _)
 | m+1,b,r,bra,ket,z1,z2,hl,hm,hW,hQ=>by
  refine .turn rfl (.set rfl (.try1 (.whl (BM (k+2) b r 1000 z2 bra ket (by omega) (fun z2 r' bra ket e f=>?_) fun a b2 z2 e f=>?_))))
  ·have e2:r'.reverse=W:=by rw [hW,f,e]
   refine .set1 rfl rfl rfl (.brk ?_)
   have:=hQ (some (.int r.length)) z2 r.length bra ket
   have e3:st (r'.reverse++[]) r.length (r'.length+([]:List Nat).length:Nat) lb bra ket ex=st W r.length W.length lb bra ket ex:=bU (by rw [List.append_nil,e2]) rfl (by rw [← e2,aad];rfl)
   exact e3▸this
  ·have hl2:(a.reverse++r).length+(121 :: b2).length<900:=by
    rw [e] at hl
    simp only [List.length_append,List.length_cons,aad] at hl ⊢;lia
   generalize hR:a.reverse++r=R at hl2
   have hR2:R.reverse=r.reverse++a:=by rw [← hR,List.reverse_append,aaq]
   have g:=kD (u:=R.reverse) (v:=b2) (z:=89) (z':=121) (c:=R.length) (l:=(R.length+(89 :: b2).length:Nat)) (lb:=lb) (bra:=(R.length:Int)) (ket:=(R.length:Int)+1) (ex:=ex) k hx (by simp only [List.length_append,List.length_cons,aad] at hl2 ⊢;lia) (by simp only [List.length_cons,aad];lia) (by simp) (by simp)
   refine .callM g rfl hx rfl rfl fun v σ h=>h▸.cont ?_
   refine BN k hx m (121 :: b2) R _ _ _ _ hl2 ?_ ?_ hQ
   ·rw [e] at hm
    simp only [List.count_append,List.count_cons] at hm ⊢
    simp at hm ⊢;lia
   ·rw [hW,e,hR2,show small (a++89 :: b2)=small a++small (121 :: b2) from List.map_append,f,aap]
theorem uC (k:Nat) {p1 p2:Int}(ht:t.length<900):aA ((GG (k+3)).Φ 40) [.obj 0] (st t 0 t.length lb bra ket (e9 y p1 p2)) fun zz σ=>∃ c bra ket:Int,σ=st (if y=true then small t else t) c (if y=true then small t else t).length lb bra ket (e9 y p1 p2):=by
 cases y with
 | false=>exact aw rfl (.iteT rfl (.ret rfl ⟨_,_,_,rfl⟩))
 | true =>
  refine aw rfl (.skip rfl ?_)
  rw [sP0]
  exact .whl (BN k ok9 1000 t [] bra ket none none (by simp;omega) (by have:=List.count_le_length (a:=89) (l:=t);omega) rfl fun z1 z2 c bra ket=>.ret rfl ⟨_,_,_,rfl⟩)
noncomputable def exc (t:List Nat):Option (List Nat):=match aE.lookup t with
 | some s=>some s
 | none=>if kept.contains t=true then some t else none
theorem AE:((gz.map bI).all fun e=>!(e.2==0)&&(if e.2>0 then (kh[(e.2 - 1).toNat]?.isSome&&exc e.1==kh[(e.2 - 1).toNat]?) else exc e.1==some e.1))=true:=by decide +kernel
theorem C1:((aE.map Prod.fst++kept).all fun s=>(gz.map bI).any fun e=>e.1==s)=true:=by decide +kernel
theorem vD (h:(exc t).isSome=true):∃ e∈gz.map bI,e.1=t:=by
 have:t∈aE.map Prod.fst++kept:=by
  unfold exc at h
  cases q:aE.lookup t with
  | some s =>
   refine List.mem_append_left _ ?_
   have:∀ l:List (List Nat×List Nat),l.lookup t=some s→t∈l.map Prod.fst:=by
    intro l
    induction l with
    | nil=>intro h;injection h
    | cons e l ih =>
     intro h
     rw [List.lookup_cons] at h
     cases q:t==e.1 with
     | true=>rw [eq_of_beq q];exact aam
     | false=>rw [q] at h;exact aag _ (ih h)
   exact this _ q
  | none =>
   rw [q] at h
   dsimp only at h
   by_cases p:kept.contains t=true
   ·exact aao _ (aak.mp p)
   ·rw [if_neg p] at h;injection h
 obtain ⟨e,he,es⟩:=List.any_eq_true.mp (aab.mp C1 t this)
 exact ⟨e,he,eq_of_beq es⟩
end
section
variable {k n:Nat}{w s u v:List Nat}{c l lb bra ket i j:Int}{ex:ah}{r b q t W:List Nat}{y:Bool}{p1 p2 z z' ch:Nat}{rest:List S}{ρ:Rho}{Q:aP}{σ:St}{z1 z2:Option V}{E:Bool→ah}
theorem C2 {xs:List V}{i:Nat}{x:V}(h:xs[i]? = some x):eR (.tup xs) (.int (i:Int))=some x:=gW h
noncomputable def HM (lb:Int) (ex:ah) (q:List Nat):St→Prop:=fun σ=>∃ c bra ket:Int,σ=st q c q.length lb bra ket ex
theorem qC (k:Nat) (hx:cz ex) (ht:t.length<800):aA ((GG (k+3)).Φ 39) [.obj 0] (st t 0 t.length lb bra ket ex) fun v σ=>v = .bool (exc t).isSome∧HM lb ex ((exc t).getD t) σ:=by
 rw [sP0]
 refine aw rfl (.set4 rfl rfl rfl (.setM (jX (tbl:=gz) (a:=657) (k+1) (by decide) vv.2) (by decide) hx rfl rfl ?_))
 rintro v σ ⟨rfl,rfl⟩
 have no:∀ {lim:Nat},(∀ e∈gz.map bI,e.1 <+: t→e.1.length≤lim)→lim<t.length→exc t=none:=fun {lim} h1 h2=>by
  cases q:exc t with
  | none=>rfl
  | some s =>
   obtain ⟨e,he,es⟩:=vD (t:=t) (by rw [q];rfl)
   have:=h1 e he (by rw [es];exact List.prefix_refl t)
   rw [es] at this;omega
 cases hb:ae (gz.map bI) t with
 | none =>
  have e0:exc t=none:=by
   cases q:exc t with
   | none=>rfl
   | some s =>
    obtain ⟨e,he,es⟩:=vD (t:=t) (by rw [q];rfl)
    exact absurd (by rw [es];exact List.prefix_refl t) (bl hb e he)
  rw [e0]
  exact .iteT rfl (.ret rfl ⟨rfl,_,_,_,sP0.symm⟩)
 | some x =>
  obtain ⟨hm,hp⟩:=aa hb
  have hk:=aab.mp AE x hm
  obtain ⟨nz,hk⟩:=aac.mp hk
  have nz:(x.2==0)=false:=by rw [Bool.not_eq_true'] at nz;exact nz
  obtain ⟨u,rfl⟩:=hp
  have hd:(x.1++u).drop (fH (some x))=u:=List.drop_left' rfl
  have htk:((x.1++u).take (fH (some x))).reverse++[]=x.1.reverse:=by rw [List.append_nil,show (x.1++u).take (fH (some x))=x.1 from List.take_left' rfl]
  show RB _ _ _ _ (sP (((x.1++u).take (fH (some x))).reverse++[]) ((x.1++u).drop (fH (some x))) lb _ ket ex) _
  rw [hd,htk]
  refine .skip (gN (p:=x.2==0) rfl nz) (.set5 rfl rfl rfl ?_)
  cases u with
  | cons a u =>
   have e0:exc (x.1++a :: u)=none:=by
    refine no (lim:=x.1.length) (fun e he hp=>?_) (by rw [List.length_append,List.length_cons];lia)
    obtain ⟨g,h1,h2⟩:=bF he hp
    obtain rfl:=aaa (hb.symm.trans h1);exact h2
   rw [e0]
   exact .iteT (cA rfl (by show ((x.1.reverse.length:Nat):Int)<((x.1.reverse.length+(u.length+1):Nat):Int);omega)) (.ret rfl ⟨rfl,_,_,_,bU (by rw [aaq];rfl) rfl (by show ((x.1.reverse.length+(a :: u).length:Nat):Int)=((x.1++a :: u).length:Nat);rw [List.length_append,aad])⟩)
  | nil =>
   have ht:x.1.length<800:=by rw [List.append_nil] at ht;exact ht
   rw [show x.1++[]=x.1 from List.append_nil _]
   refine .skip (cG rfl (by show ¬ ((x.1.reverse.length:Nat):Int)<((x.1.reverse.length+0:Nat):Int);lia)) ?_
   have el:(x.1.reverse.length+([]:List Nat).length:Nat)=x.1.length:=by rw [aad];rfl
   have es:∀ bra ket:Int,st (x.1.reverse.reverse++[]) x.1.reverse.length (x.1.reverse.length+([]:List Nat).length:Nat) lb bra ket ex=st x.1 x.1.length x.1.length lb bra ket ex:=fun bra ket=>bU (by rw [List.append_nil,aaq]) (by rw [aad]) (by rw [el])
   show RB _ _ _ _ (st (x.1.reverse.reverse++[]) x.1.reverse.length (x.1.reverse.length+([]:List Nat).length:Nat) lb ((0:Nat):Int) x.1.reverse.length ex) _
   rw [es,aad]
   by_cases g:x.2>0
   ·rw [if_pos g] at hk
    obtain ⟨k1,k2⟩:=aac.mp hk
    obtain ⟨s,hs⟩:=Option.isSome_iff_exists.mp k1
    have k2:=eq_of_beq k2
    rw [k2,hs]
    have sl:s.length≤10:=of_decide_eq_true (aab.mp (show (kh.all fun s=>decide (s.length≤10))=true by decide) s (aah hs))
    have ev1:evs (GG (k+2)) [some (.obj 0),some (.int x.2)] (st x.1 x.1.length x.1.length lb ((0:Nat):Int) x.1.length ex) [.idx (.cat 16) (.bin .sub (.loc 1) (.int 1))]=some ([.str s],st x.1 x.1.length x.1.length lb ((0:Nat):Int) x.1.length ex):=by
     refine fG (bJ (va:=.tup (nM kh)) (vi:=.int ((x.2 - 1).toNat:Nat)) (C2 ?_) rfl ?_) rfl
     ·unfold nM;rw [List.getElem?_map,hs];rfl
     ·rw [show (((x.2 - 1).toNat:Nat):Int)=x.2 - 1 by omega];rfl
    refine .iteT (cA rfl g) (.callM (eN (s:=s) (a:=0) (b:=x.1.length) k hx (Nat.zero_le _) (Nat.le_refl _) (by lia)) rfl hx rfl ev1 fun v σ h=>.nil (.ret rfl ⟨rfl,_,_,_,h.2.trans (oF ?_ rfl ?_ rfl rfl)⟩))
    ·rw [List.take_zero,List.drop_length,List.append_nil];rfl
    ·show (x.1.length:Int)+((s.length:Int) - ((x.1.length:Int) - ((0:Nat):Int)))=(s.length:Nat)
     lia
   ·rw [if_neg g] at hk
    rw [eq_of_beq hk]
    exact .skip (cG rfl g) (.ret rfl ⟨rfl,_,_,_,rfl⟩)
end
section
variable {k n m:Nat}{w s u v:List Nat}{c l lb bra ket:Int}{i j:Nat}{ex:ah}{r b q t W:List Nat}{y:Bool}{p1 p2:Nat}{rest:List S}{ρ:Rho}{Q:aP}{σ:St}{E:Bool→ah}
noncomputable def S10 (ρ:Rho):Prop:=bo ρ∧ρ.length=10
theorem S10.set {v:Option V}(h:S10 ρ) (hi:Nat.blt 0 i=true):S10 (ρ.set i v) :=
 ⟨(List.getElem?_set_ne (Nat.ne_of_gt (aan hi))).trans h.1,(List.length_set ..).trans h.2⟩
theorem qQ {v:V}{a:Nat}{σ:St}(h:bo ρ) (e:cL (GG k).P σ (.obj 0) a=some v):ev (GG k) ρ σ (.attr (.loc 0) a)=some (v,σ):=by
 show (ev (GG k) ρ _ (.loc 0)).bind _=_
 rw [dJ h]
 show (cL _ _ _ _).map _=_
 rw [e];rfl
noncomputable def iH (i m:Nat) (rest:List S):List S:=.set i (.bin .sub (.attr (.loc 0) 2) (.attr (.loc 0) 1)) :: .expr (.meth (.loc 0) (m+12) []) :: .setA (.loc 0) 1 (.bin .sub (.attr (.loc 0) 2) (.loc i)) :: rest
theorem RB.stepE (hx:cz ex) (hi:Nat.blt 0 i=true) (hj:Nat.blt i 10=true) (g:aA ((GG k).Φ (m+12)) [.obj 0] (stR r r.length bra ket ex) (End ex q)) (hm:Nat.blt m 30=true) (h0:S10 ρ) (h:∀ (bra ket:Int) (ρ:Rho),S10 ρ→RB (GG k) n rest ρ (stR q q.length bra ket ex) Q) :
 RB (GG k) n (iH i m rest) ρ (stR r r.length bra ket ex) Q:=by
 refine .set (dc (qQ h0.1 rfl) (s8 rfl h0.1)) (.callM g hm hx (h0.set hi).1 rfl fun v σ e=>?_)
 obtain ⟨c,bra',ket',rfl⟩:=e
 exact .set1 rfl (h0.set hi).1 (dK (by lia) (dc (qQ (h0.set hi).1 rfl) (fJ (List.getElem?_set_self (h0.2▸aan hj))))) (h _ _ _ (h0.set hi))
theorem yV {p1 p2:Nat}{y:Bool}(k:Nat) (l0:r.length≤700) (hρ:S10 ρ) (h:∀ (bra ket:Int) (ρ:Rho),S10 ρ→(aR p1 p2 r).length≤750→RB (GG (k+4)) n rest ρ (stR (aR p1 p2 r) (aR p1 p2 r).length bra ket (e9 y p1 p2)) Q) :
 RB (GG (k+4)) n (iH 2 20 (iH 3 21 (iH 4 22 (iH 5 23 (iH 6 24 (iH 7 25 (iH 8 26 rest))))))) ρ (stR r r.length bra ket (e9 y p1 p2)) Q:=by
 unfold aR at h
 have l1:=aaf (sT _).le (aaf (vp r).le l0)
 refine .stepE ok9 rfl rfl (yQ k (aaf l0 (by decide))) rfl hρ fun bra ket ρ hρ=>?_
 generalize a9 (aU r)=r at l1 h ⊢
 have l2:=aaf (jg p1 r).le l1
 refine .stepE ok9 rfl rfl (yS k (aaf l1 (by decide))) rfl hρ fun bra ket ρ hρ=>?_
 generalize aY p1 r=r at l2 h ⊢
 have l3:=aaf (Nat.le_of_eq (iF r)) l2
 refine .stepE ok9 rfl rfl (yO k (aaf l2 (by decide))) rfl hρ fun bra ket ρ hρ=>?_
 generalize ao r=r at l3 h ⊢
 have l4:(aS p1 r).length≤700:=aaf ((xb p1 r).elim (fun h=>h.le) fun h=>Nat.le_of_eq h.1) l3
 refine .stepE ok9 rfl rfl (Az k (aaf l3 (by decide))) rfl hρ fun bra ket ρ hρ=>?_
 generalize aS p1 r=r at l4 h ⊢
 have l5:=aaf (lC p1 p2 r).le l4
 refine .stepE ok9 rfl rfl (AA k (aaf l4 (by decide))) rfl hρ fun bra ket ρ hρ=>?_
 generalize bc p1 p2 r=r at l5 h ⊢
 have l6:=aaf (lD p2 r).le l5
 refine .stepE ok9 rfl rfl (AB k (aaf l5 (by decide))) rfl hρ fun bra ket ρ hρ=>?_
 generalize bp p2 r=r at l6 h ⊢
 exact .stepE ok9 rfl rfl (AC k (aaf l6 (by decide))) rfl hρ fun bra ket ρ hρ=>h _ _ _ hρ (aaf (oh p1 p2 r).le (aaf l6 (by decide)))
theorem Fe:st t c t.length 0 bra ket ex=stR t.reverse c bra ket ex:=bU (aaq t).symm rfl (by rw [aad])
theorem Ff:stR q c bra ket ex=st q.reverse c q.reverse.length 0 bra ket ex:=bU rfl rfl (by rw [aad])
noncomputable def iW (ex:ah):Prop:=ex=[]∨∃ (y:Bool) (a b:Int),ex=e9 y a b
theorem iW.start (h:iW ex):∃ E,BK ex E:=by
 rcases h with rfl | ⟨y,a,b,rfl⟩
 ·exact ⟨_,HK,fun zz zz zz zz zz zz=>rfl⟩
 ·exact ⟨_,HL (a:=a) (b:=b),fun zz zz zz zz zz zz=>rfl⟩
theorem iW.ok (h:iW ex):cz ex:=by
 rcases h with rfl | ⟨y,a,b,rfl⟩
 ·exact fun m=>rfl
 ·exact ok9
theorem AF {s:List Nat}(h:exc w=some s):ag w=s:=by
 unfold exc at h
 unfold ag
 cases q:aE.lookup w with
 | some x=>rw [q] at h;obtain rfl:=aaa h;rfl
 | none =>
  rw [q] at h
  dsimp only at h ⊢
  by_cases p:kept.contains w=true
  ·rw [if_pos p] at h;obtain rfl:=aaa h;rw [p];rfl
  ·rw [if_neg p] at h;injection h
theorem yW (h:exc w=none):ag w=if w.length<3 then w else (let t:=aG w;let m:=ad t;let s:=(aR (first m) (az m) m.reverse).reverse;if m=t then s else small s):=by
 unfold exc at h
 unfold ag
 cases q:aE.lookup w with
 | some x=>rw [q] at h;injection h
 | none =>
  rw [q] at h
  dsimp only at h
  by_cases p:kept.contains w=true
  ·rw [if_pos p] at h;injection h
  ·have p:kept.contains w=false:=by cases z:kept.contains w<;>first | rfl | exact absurd z p
   dsimp only
   rw [p,Bool.false_or]
   by_cases q:w.length<3
   ·rw [decide_eq_true q,if_pos rfl,if_pos q]
   ·rw [decide_eq_false q,if_neg aaj,if_neg q]
theorem be (t:List Nat):(ad t).length=t.length:=by
 have:∀ (t:List Nat) (p:Option Nat),(Eng.av p t).length=t.length:=by
  intro t
  induction t with
  | nil=>intro p;rfl
  | cons c t ih=>intro p;exact congrArg (· + 1) (ih _)
 exact this t none
noncomputable def AG (q:List Nat):St→Prop:=fun σ=>∃ (ex:ah) (c bra ket:Int),iW ex∧σ=st q c q.length 0 bra ket ex
theorem AH (k:Nat) (hg:iW ex) (hw:w.length<700):aA ((GG (k+5)).Φ 41) [.obj 0] (st w 0 w.length 0 bra ket ex) fun zz σ=>AG (ag w) σ:=by
 have ho:=hg.ok
 obtain ⟨E,hs⟩:=hg.start
 have F:=hs.1
 refine aw rfl (.once (.set rfl (.tryK (fun ρ' σ'=>ρ'=[some (.obj 0),some (.int 0),none,none,none,none,none,none,none,none]∧(∃ c bra ket:Int,σ'=st w c w.length 0 bra ket ex)∧exc w=none) ?_ ?_)))
 ·refine .notM (qC (k+1) ho (aaf (by assumption) (by decide))) (by decide) ho rfl rfl (fun q σ e=>.raise rfl ⟨rfl,?_,?_⟩) fun q σ e=>?_
  ·cases h:exc w with
   | none=>rw [h] at e;exact e
   | some s=>rw [h] at q;injection q
  ·cases h:exc w with
   | none=>rfl
   | some s=>rw [h] at q;injection q
  ·cases h:exc w with
   | none=>rw [h] at q;injection q
   | some s =>
    rw [h] at e
    obtain ⟨c,bra,ket,rfl⟩:=e
    rw [AF h]
    exact .brk (.ret rfl ⟨ex,_,_,_,hg,rfl⟩)
 ·rintro ρ σ ⟨rfl,⟨c,bra,ket,rfl⟩,he⟩
  rw [yW he]
  refine .set1 rfl rfl rfl (.tryK (fun ρ' σ'=>ρ'=[some (.obj 0),some (.int 0),none,none,none,none,none,none,none,none]∧(∃ c:Int,σ'=st w c w.length 0 bra ket ex)∧¬ w.length<3) ?_ ?_)
  ·refine .try1 (.ite rfl (fun h=>.raise rfl ?_) fun h=>.nil (.add1 rfl rfl rfl (.raise rfl ⟨rfl,⟨_,rfl⟩,?_⟩)))
   ·have h:(0:Int)+3>w.length:=of_decide_eq_true h
    rw [if_pos (by omega)]
    exact .brk (.ret rfl ⟨ex,_,_,_,hg,rfl⟩)
   ·have h:¬ (0:Int)+3>w.length:=of_decide_eq_false h
    omega
  ·rintro ρ σ ⟨rfl,⟨c,rfl⟩,h3⟩
   rw [if_neg h3]
   dsimp only
   have lu:(aG w).length≤w.length:=by unfold aG;split<;>simp
   have lm:(ad (aG w)).length≤w.length:=by rw [be];exact lu
   generalize hm:ad (aG w)=m at lm
   refine .set1 rfl rfl rfl (.callM (xo k hs (aaf (by assumption) (by decide))) rfl ho rfl rfl fun v σ e=>?_)
   obtain ⟨y,bra1,ket1,rfl,y1,y2⟩:=e
   rw [hm] at y1 y2 ⊢
   refine .callM (xn (t:=m) (k+2) (F.ex y) (by omega)) rfl (F.ok y) rfl rfl fun v σ e=>?_
   obtain ⟨bra2,ket2,rfl⟩:=e
   refine .set3 rfl rfl rfl (.set1 (i:=m.length) rfl rfl rfl ?_)
   rw [Fe]
   rw [show (m.length:Int)=(m.reverse.length:Nat) by rw [aad]]
   refine yV k (by rw [aad];lia) ⟨rfl,rfl⟩ fun bra ket ρ hρ l8=>?_
   generalize aR (first m) (az m) m.reverse=r at l8
   refine .set1 (i:=0) rfl hρ.1 (qQ hρ.1 rfl) (.set (v:=.int 0) (σ':=stR r 0 bra ket _) (qQ hρ.1 rfl) ?_)
   have l9:9<ρ.length:=hρ.2▸(by decide)
   have hρ:=hρ.set (i:=9) (v:=some (.int 0)) rfl
   rw [Ff]
   refine .callM (uC (t:=r.reverse) (k+1) (by rw [aad];exact Nat.lt_of_le_of_lt (by assumption) (by decide))) rfl ok9 hρ.1 rfl fun v σ e=>?_
   obtain ⟨c,bra3,ket3,rfl⟩:=e
   refine .set1 rfl hρ.1 (fJ (List.getElem?_set_self l9)) (.brk (.ret rfl ?_))
   have:(if y=true then small r.reverse else r.reverse)=(if m=aG w then r.reverse else small r.reverse):=by
    cases y with
    | true=>rw [if_pos rfl,if_neg (y1 rfl)]
    | false=>rw [if_neg aaj,if_pos (y2 rfl)]
   rw [this]
   exact ⟨_,_,_,_,.inr ⟨_,_,_,rfl⟩,rfl⟩
theorem uD (k:Nat) (hg:iW ex) (hw:w.length<700):aA ((GG (k+6)).Φ 26) [.obj 0,.str w] (st s c l lb bra ket ex) fun v σ=>v = .str (ag w)∧AG (ag w) σ:=by
 refine aw rfl (.callM (pH (k+4) w) rfl hg.ok rfl rfl fun v σ e=>?_)
 obtain ⟨_,rfl⟩:=e
 refine .callM (AH k hg hw) rfl hg.ok rfl rfl fun v σ e=>?_
 obtain ⟨ex',c',bra',ket',g',rfl⟩:=e
 obtain ⟨v,σ',e,rfl,rfl⟩:=jl (m:=1) (k:=k+5) (ρ:=[some (.obj 0),some (.str w)]) (xs:=[]) (by decide) g'.ok rfl rfl (pI (k+4))
 exact .ret e ⟨rfl,_,_,_,_,g',rfl⟩
end
theorem dg {G:Sg}{body:List S}{np nv:Nat}{xs:List V}{v:V}(hl:xs.length=np) (h:∀ σ,RB G aO body (xs.map some++List.replicate nv none) σ (dN fun v' σ'=>v'=v∧σ'=σ)):fB (exB G aO body) np nv xs=some v:=by
 refine sk fun σ=>?_
 obtain ⟨v',σ',e,rfl,rfl⟩:=aw (G:=G) (m:=aO) hl (h σ)
 exact e
section
variable {G:Sg}{k n:Nat}{ρ:Rho}{σ:St}{x:X}{xs:List X}{vs:List V}{v:V}{f:Nat}{t:List Nat}
theorem cE (h:evs G ρ σ xs=some (vs,σ)) (q:G.Ψ f vs=some v):ev G ρ σ (.call f xs)=some (v,σ):=by
 show (evs G ρ σ xs).bind _=_
 rw [h];show (G.Ψ f vs).map _=_
 rw [q];rfl
theorem dw (l:List Nat) (L:List (List Nat)):inV (.str l) (.list (L.map .str))=some (L.contains l):=by
 show (bG (L.map .str)).map (fun L=>L.contains l)=_
 rw [dZ];rfl
theorem oG (l:List Nat) (c:Nat):(l.map fun x=>[x]).contains [c]=l.contains c:=by
 rw [Bool.eq_iff_iff,aak,aak,List.mem_map]
 constructor
 ·rintro ⟨a,h,e⟩;rw [← List.cons.inj e |>.1];exact h
 ·exact fun h=>⟨c,h,rfl⟩
theorem cK {a b:X}{va vb:V}{p:Bool}(h1:ev G ρ σ a=some (va,σ)) (h2:ev G ρ σ b=some (vb,σ)) (q:inV va vb=some p):ev G ρ σ (.cmp .isin a b)=some (.bool p,σ):=by
 show (ev G ρ σ a).bind _=_
 rw [h1];show (ev G ρ σ b).bind _=_
 rw [h2];show (inV va vb).map _=_
 rw [q];rfl
theorem mO {a b:X}{va vb:V}{p:Bool}(h1:ev G ρ σ a=some (va,σ)) (h2:ev G ρ σ b=some (vb,σ)) (q:inV va vb=some p):ev G ρ σ (.cmp .notin a b)=some (.bool (!p),σ):=by
 show (ev G ρ σ a).bind _=_
 rw [h1];show (ev G ρ σ b).bind _=_
 rw [h2];show ((inV va vb).map _).map _=_
 rw [q];rfl
theorem eF {c a b:X}{p:Bool}(h:ev G ρ σ c=some (.bool p,σ)) (h1:p=true→ev G ρ σ a=some (v,σ)) (h2:p=false→ev G ρ σ b=some (v,σ)):ev G ρ σ (.ife c a b)=some (v,σ):=by
 show (ev G ρ σ c).bind _=_
 rw [h]
 cases p with
 | true=>exact h1 rfl
 | false=>exact h2 rfl
theorem mP (k c:Nat):(GG (k+1)).Ψ 5 [.str [c]]=some (.bool (vow c)) :=
 dg rfl fun σ=>.ret (cK (va:=.str [c]) (vb:=.list (([97,101,105,111,117,121].map fun x=>[x]).map .str)) rfl rfl ((dw _ _).trans (congrArg some (oG _ _)))) ⟨rfl,rfl⟩
noncomputable def kd (c:Nat):Nat:=if vow c=true then 118 else 99
theorem ql:∀ l:List Nat,bG (l.map fun c=>.str [c])=some (l.map fun c=>[c])
 | []=>rfl
 | c :: l=>by
  show (bG (l.map fun c=>.str [c])).map ([c] :: ·)=_
  rw [ql l];rfl
theorem mQ:∀ l:List Nat,(l.map fun c=>[c]).flatten=l
 | []=>rfl
 | c :: l=>congrArg (c :: ·) (mQ l)
theorem tg {e:X}{l:List Nat}(h:ev G ρ σ e=some (.list (l.map fun c=>.str [c]),σ)) (hl:l.length≤2000):ev G ρ σ (.sm .join (.str []) e)=some (.str l,σ):=by
 show (ev G ρ σ e).bind _=_
 rw [h]
 show ((bG (l.map fun c=>.str [c])).bind fun ts=>if ts.flatten.length≤big then some (V.str ts.flatten) else none).map _=_
 rw [ql]
 show (if (l.map fun c=>[c]).flatten.length≤big then some (V.str (l.map fun c=>[c]).flatten) else none).map _=_
 rw [mQ,if_pos (aaf hl (by decide))];rfl
theorem vE {e it:X}{j:Nat}{l:List Nat}{g:Nat→Nat}(hi:ev G ρ σ it=some (.str l,σ)) (he:∀ c,ev G (ρ.set j (some (.str [c]))) σ e=some (.str [g c],σ)):ev G ρ σ (.comp e j it)=some (.list ((l.map g).map fun c=>.str [c]),σ):=by
 show (ev G ρ σ it).bind _=_
 rw [hi]
 show (f7 _ (l.map fun c=>.str [c])).map _=_
 have:∀ l:List Nat,f7 (fun i=>(ev G (ρ.set j (some i)) σ e).map (·.1)) (l.map fun c=>.str [c])=some ((l.map g).map fun c=>.str [c]):=by
  intro l
  induction l with
  | nil=>rfl
  | cons c l ih =>
   show ((ev G (ρ.set j (some (.str [c]))) σ e).map (·.1)).bind _=_
   rw [he]
   show (f7 _ (l.map fun c=>.str [c])).map _=_
   rw [ih];rfl
 rw [this];rfl
theorem AI (k:Nat) (ht:t.length≤2000):(GG (k+2)).Ψ 6 [.str t]=some (.str (t.map kd)):=by
 refine dg rfl fun σ=>.ret (tg (vE (l:=t) rfl fun c=>?_) (by rw [List.length_map];exact ht)) ⟨rfl,rfl⟩
 refine eF (cE (v:=.bool (vow c)) rfl (mP k c)) (fun h=>?_) fun h=>?_<;>(unfold kd;rw [h];rfl)
theorem AJ (n:Nat):seqIndex? (-1) (n+1)=some n:=by
 have e:(if (-1:Int)<0 then -1+((n+1:Nat):Int) else -1)=(n:Nat):=by rw [if_pos (by decide)];lia
 show (if (decide (0≤(if (-1:Int)<0 then -1+((n+1:Nat):Int) else -1))&&decide ((if (-1:Int)<0 then -1+((n+1:Nat):Int) else -1)<((n+1:Nat):Int)))=true then some (if (-1:Int)<0 then -1+((n+1:Nat):Int) else -1).toNat else none)=some n
 rw [e,decide_eq_true (by lia),decide_eq_true (by omega)];rfl
theorem C3 (P:List Nat) (m:Nat):eR (.list (((P++[m]).map fun c=>[c]).map .str)) (.int (-1))=some (.str [m]):=by
 show (seqIndex? (-1) (((P++[m]).map fun c=>[c]).map V.str).length).bind _=_
 rw [show (((P++[m]).map fun c=>[c]).map V.str).length=P.length+1 by simp,AJ]
 show (((P++[m]).map fun c=>[c]).map V.str)[P.length]? = _
 simp
theorem bK {a:X}{r:List X}{p q:Bool}(h:ev G ρ σ a=some (.bool p,σ)) (h2:p=true→ev G ρ σ (.conj r)=some (.bool q,σ)):ev G ρ σ (.conj (a :: r))=some (.bool (p&&q),σ):=by
 show ((ev G ρ σ a).bind _).map _=_
 rw [h]
 cases p with
 | true=>exact h2 rfl
 | false=>rfl
theorem eo {a:X}{r:List X}{p q:Bool}(h:ev G ρ σ a=some (.bool p,σ)) (h2:p=false→ev G ρ σ (.disj r)=some (.bool q,σ)):ev G ρ σ (.disj (a :: r))=some (.bool (p||q),σ):=by
 show ((ev G ρ σ a).bind _).map _=_
 rw [h]
 cases p with
 | false=>exact h2 rfl
 | true=>rfl
theorem dE {a b:X}{l m:List Nat}(h1:ev G ρ σ a=some (.str l,σ)) (h2:ev G ρ σ b=some (.str m,σ)):ev G ρ σ (.cmp .eq a b)=some (.bool (l==m),σ):=by
 show (ev G ρ σ a).bind _=_
 rw [h1];show (ev G ρ σ b).bind _=_
 rw [h2];rfl
theorem yX {a b:X}{l m:List Nat}(h1:ev G ρ σ a=some (.str l,σ)) (h2:ev G ρ σ b=some (.str m,σ)):ev G ρ σ (.cmp .ne a b)=some (.bool (!(l==m)),σ):=by
 show (ev G ρ σ a).bind _=_
 rw [h1];show (ev G ρ σ b).bind _=_
 rw [h2];rfl
theorem yY {a:X}{L:List (List Nat)}(h1:ev G ρ σ a=some (.list (L.map .str),σ)):ev G ρ σ (.cmp .eq a (.lst []))=some (.bool L.isEmpty,σ):=by
 show (ev G ρ σ a).bind _=_
 rw [h1]
 show (eqL (.list (L.map .str)) (.list [])).map _=_
 show ((bG (L.map .str)).bind fun p=>some (p==[])).map _=_
 rw [dZ]
 cases L<;>rfl
noncomputable def MM:Option Nat→Bool
 | none=>true
 | some b=>vow b
theorem G9 (p:Option Nat) (c:Nat):mk1 p c=if (c==121&&MM p)=true then 89 else c:=by cases p<;>rfl
theorem Ha (k:Nat) (w P:List Nat) (c:Nat) (σ:St):pn (GG (k+1)) w fC σ (P.map fun c=>[c]) c=some [mk1 P.getLast? c]:=by
 have h:ev (GG (k+1)) [some (.str w),some (.list ((P.map fun c=>[c]).map .str)),some (.str [c])] σ fC=some (.str [mk1 P.getLast? c],σ):=by
  have e1:([c]==[121])=(c==121):=by show (c==121&&true)=_;rw [Bool.and_true]
  rw [G9]
  refine eF (p:=c==121&&MM P.getLast?) ?_ (fun h=>?_) fun h=>?_
  ·rw [← e1]
   refine bK (dE rfl rfl) fun zz=>?_
   rcases List.eq_nil_or_concat P with rfl | ⟨P',b,rfl⟩
   ·rfl
   ·rw [List.concat_eq_append,List.getLast?_concat]
    have e2:=yY (G:=GG (k+1)) (σ:=σ) (ρ:=[some (.str w),some (.list (((P'++[b]).map fun c=>[c]).map .str)),some (.str [c])]) (a:=.loc 1) (L:=(P'++[b]).map fun c=>[c]) rfl
    have e3:((P'++[b]).map fun c=>[c]).isEmpty=false:=by cases P'<;>rfl
    rw [e3] at e2
    have:=bK (r:=[]) (q:=true) (eo (r:=[.call 5 [.idx (.loc 1) (.neg (.int 1))]]) (q:=vow b) e2 fun zz=>?_) fun zz=>rfl
    ·rw [Bool.false_or,Bool.and_true] at this;exact this
    ·have:=eo (r:=[]) (q:=false) (cE (G:=GG (k+1)) (ρ:=[some (.str w),some (.list (((P'++[b]).map fun c=>[c]).map .str)),some (.str [c])]) (σ:=σ) (f:=5) (xs:=[.idx (.loc 1) (.neg (.int 1))]) (fG (bJ (C3 P' b) rfl rfl) rfl) (mP k b)) fun zz=>rfl
     rw [Bool.or_false] at this;exact this
  ·rw [if_pos h];rfl
  ·rw [if_neg (ne_true_of_eq_false h)];rfl
 show (ev (GG (k+1)) _ σ fC).bind _=_
 rw [h];rfl
theorem vF (k:Nat) (w:List Nat) (σ:St):∀ (r P:List Nat),nJ (pn (GG (k+1)) w fC σ) (P.map fun c=>[c]) r=some ((P++Eng.av P.getLast? r).map fun c=>[c])
 | [],P=>by rw [show Eng.av P.getLast? []=[] by cases P.getLast?<;>rfl,List.append_nil];rfl
 | c :: r,P=>by
  show (pn (GG (k+1)) w fC σ (P.map fun c=>[c]) c).bind _=_
  rw [Ha]
  have:=vF k w σ r (P++[mk1 P.getLast? c])
  rw [List.getLast?_concat,List.map_append,aap] at this
  exact this
theorem qm (k:Nat) {w:List Nat}(hw:w.length≤2000):(GG (k+2)).Ψ 7 [.str w]=some (.str (ad w)):=by
 show fB (jE (GG (k+1)) fC) 1 2 [.str w]=_
 refine sk fun σ=>?_
 unfold im
 rw [if_pos (show [V.str w].length=1 from rfl)]
 show ((nJ (pn (GG (k+1)) w fC σ) (([]:List Nat).map fun c=>[c]) w).bind _).bind _=_
 rw [vF]
 show (if (((ad w).map fun c=>[c]).flatten.length≤big) then some (Out.ret (.str ((ad w).map fun c=>[c]).flatten),_,σ) else none).bind _=_
 rw [mQ,if_pos (by rw [be];exact aaf hw (by decide))];rfl
end
end Mine
end
section
namespace Mine.Eng
theorem oH {α:Type} : ∀ {l:List (W×α)}{r r':W},(∀ e∈l,e.1.isPrefixOf r=e.1.isPrefixOf r')→ae l r=ae l r'
 | [],_,_,_=>rfl
 | e :: l,r,r',h=>by
  unfold ae
  rw [oH fun f hf=>h f (aag _ hf),h e aam]
theorem gZ {α β:Type}{l:List (W×α)}{U:List (W×β)}{r:W}{u:W×β}(hU:(l.all fun e=>U.any fun f=>f.1==e.1)=true) (h:ae U r=some u):ae l r=ae l u.1 :=
 oH fun e he=>by
  obtain ⟨f,hf,q⟩:=List.any_eq_true.mp (aab.mp hU e he)
  have q:=eq_of_beq q
  have pu:=(aa h).2
  rw [Bool.eq_iff_iff,aae,aae]
  constructor
  ·intro p
   obtain ⟨u',h',len⟩:=bF hf (q▸p)
   rw [h] at h';obtain rfl:=aaa h'
   exact List.prefix_of_prefix_length_le p pu (q▸len)
  ·exact fun p=>p.trans pu
theorem g6 {α β:Type}{l:List (W×α)}{U:List (W×β)}{r:W}(hU:(l.all fun e=>U.any fun f=>f.1==e.1)=true) (h:ae U r=none):ae l r=none:=by
 cases q:ae l r with
 | none=>rfl
 | some e =>
  obtain ⟨f,hf,z⟩:=List.any_eq_true.mp (aab.mp hU e (aa q).1)
  exact absurd (eq_of_beq z▸(aa q).2) (bl h f hf)
noncomputable def gG:List (W×W):=gC [("anci",[]),("enci",[]),("ogi",ks "l"),("li",ks "cdeghkmnrt"),("bli",[]),("abli",[]),("alli",[]),("fulli",[]),("lessli",[]),("ousli",[]),("entli",[]),("aliti",[]),("biliti",[]),("iviti",[]),("iciti",[]),("tional",[]),("ational",[]),("ical",[]),("ful",[]),("alism",[]),("ation",[]),("ization",[]),("izer",[]),("ator",[]),("ness",[]),("ogist",[]),("icate",[]),("alize",[])]
noncomputable def far:List (W×W):=gC [("al",[]),("l",ks "l"),("ic",[]),("er",[]),("ism",[]),("iti",[]),("ous",[]),("ant",[]),("ent",[]),("ment",[]),("ement",[]),("ion",ks "st"),("e",[])]
noncomputable def dy (tab:List (W×W)) (p:Nat) (r:W):Bool:=match ae tab r with
 | some (s,b)=>inR p r s.length&&(b.isEmpty||bC b (r.drop s.length))
 | none=>false
noncomputable def pN (r:W):Act→Bool
 | .to _=>true
 | .ogi=>(r.drop 3).head?==some 108
 | .li=>bC (ks "cdeghkmnrt") (r.drop 2)
noncomputable def ch2 (p1:Nat) (r:W):Bool:=match ae t2 r with
 | some (s,a)=>inR p1 r s.length&&pN r a
 | none=>false
noncomputable def ch3 (p1 p2:Nat) (r:W):Bool:=match ae t3 r with
 | some (s,two,_)=>inR p1 r s.length&&(!two||inR p2 r s.length)
 | none=>false
noncomputable def ch4 (p2:Nat) (r:W):Bool:=match ae t4 r with
 | some (s,plain)=>inR p2 r s.length&&(plain||bC [115,116] (r.drop 3))
 | none=>false
noncomputable def ch5 (p1 p2:Nat) (r:W):Bool:=match r with
 | 101 :: q=>inR p2 r 1||(inR p1 r 1&&!aF q)
 | 108 :: q=>inR p2 r 1&&q.head?==some 108
 | _=>false
theorem fa {r:W}{k:Nat}(hk:0<k) (hr:0<r.length):r.drop k≠r:=fun e=>by
 have:=congrArg List.length e
 rw [aal] at this;omega
theorem et {c:Bool}{x r:W}(h:x≠r):(if c=true then x else r)=r↔c=false:=by
 cases c
 ·exact ⟨fun zz=>rfl,fun zz=>rfl⟩
 ·exact ⟨fun e=>absurd e h,fun e=>Bool.noConfusion e⟩
theorem Fg (p1:Nat) (r:W):aS p1 r=r↔ch2 p1 r=false:=by
 unfold aS ch2
 cases h:ae t2 r with
 | none=>simp
 | some e =>
  obtain ⟨s,a⟩:=e
  have z:=sU _ (aa h).1
  have l:s.length≤r.length:=(aa h).2.length_le
  have z1:2≤s.length:=z.1
  dsimp only
  cases hr:inR p1 r s.length with
  | false=>simp
  | true =>
   rw [if_pos rfl,Bool.true_and]
   cases a with
   | to t =>
    refine ⟨fun e=>?_,fun e=>Bool.noConfusion e⟩
    exfalso
    have len:=congrArg List.length e
    rw [List.length_append,aad,aal] at len
    rcases z.2 t rfl with q | ⟨q1,q2,q3⟩
    ·have q:t.length<s.length:=q
     omega
    ·
     have hs:(t2.all fun e=>match e.2 with | .to t=>decide (t.length<e.1.length)||(e.1.head?==some 105&&t.reverse.head?==some 101) | _=>true)=true:=by decide
     have w:=aab.mp hs _ (aa h).1
     have w:(decide (t.length<s.length)||(s.head?==some 105&&t.reverse.head?==some 101))=true:=w
     have q1:t.length=s.length:=q1
     rw [decide_eq_false (by omega),Bool.false_or] at w
     obtain ⟨w1,w2⟩:=aac.mp w
     have w1:=eq_of_beq w1;have w2:=eq_of_beq w2
     obtain ⟨q,hq⟩:=(aa h).2
     have hq:s++q=r:=hq
     have e1:r.head? = some 105:=by rw [← hq,List.head?_append,w1];rfl
     have e2:r.head? = some 101:=by rw [← e,List.head?_append,w2];rfl
     rw [e1] at e2;(injection e2 with hE;cases hE)
   | ogi =>
    show (if ((r.drop 3).head?==some 108)=true then r.drop 1 else r)=r↔_
    exact et (fa (by decide) (by omega))
   | li =>
    show (if bC (ks "cdeghkmnrt") (r.drop 2)=true then r.drop 2 else r)=r↔_
    exact et (fa (by decide) (by omega))
theorem Fh (p1 p2:Nat) (r:W):bc p1 p2 r=r↔ch3 p1 p2 r=false:=by
 unfold bc ch3
 cases h:ae t3 r with
 | none=>simp
 | some e =>
  obtain ⟨s,two,t⟩:=e
  have z:t.length<s.length:=vr _ (aa h).1
  have l:s.length≤r.length:=(aa h).2.length_le
  exact et fun e=>by
   have:=congrArg List.length e
   rw [List.length_append,aad,aal] at this;omega
theorem Fi (p2:Nat) (r:W):bp p2 r=r↔ch4 p2 r=false:=by
 unfold bp ch4
 cases h:ae t4 r with
 | none=>simp
 | some e =>
  obtain ⟨s,plain⟩:=e
  have z:0<s.length:=n9 _ (aa h).1
  exact et (fa z (dD (s:=s) (aa h).2 z))
theorem vG {c:Nat}{q:W} : q≠c :: q:=fun e=>by have:=congrArg List.length e;simp at this
theorem AK (p1 p2:Nat) (r:W):bT p1 p2 r=r↔ch5 p1 p2 r=false:=by
 unfold bT ch5
 split
 ·exact et vG
 ·exact et vG
 ·simp
end Mine.Eng
end
section
open PySem PySem.W PyProof.Rows
open Mine.Eng
namespace Mine
section
variable {G:Sg}{k n m p:Nat}{ρ:Rho}{σ:St}{x:X}{xs:List X}{vs:List V}{v:V}{f:Nat}{t r:List Nat}{Q:aP}
theorem xr {ch:Nat}{q:Nat→Bool}(hq:∀ c,(kd c==ch)=q c):∀ (b a:List Nat) (m:Nat),t=a++b→b.length<m→Q .next [some (.str (t.map kd)),some (.int (t.length - (b.dropWhile q).length:Nat))] σ→RW G n (.conj [.cmp .lt (.loc 1) (.bi .len [.loc 0]),.cmp .eq (.idx (.loc 0) (.loc 1)) (.str [ch])]) [.aug 1 .add (.int 1)] m [some (.str (t.map kd)),some (.int a.length)] σ Q
 | _,_,0,_,h,_=>absurd h (Nat.not_lt_zero _)
 | [],a,m+1,ht,hm,h=>by
  have ea:t.length=a.length:=by rw [ht,List.append_nil]
  have e1:(decide ((a.length:Int)<(t.map kd).length))=false:=decide_eq_false (by rw [List.length_map,ea];lia)
  refine .done ((bK (p:=decide ((a.length:Int)<(t.map kd).length)) (q:=false) rfl fun h=>?_).trans (by rw [e1];rfl)) ?_
  ·rw [e1] at h;injection h
  ·rw [show t.length - (([]:List Nat).dropWhile q).length=a.length by rw [ea];rfl] at h;exact h
 | x :: b,a,m+1,ht,hm,h=>by
  have lt:a.length<t.length:=by rw [ht,List.length_append,List.length_cons];lia
  have e1:(decide ((a.length:Int)<(t.map kd).length))=true:=decide_eq_true (by rw [List.length_map];exact Int.ofNat_le.mpr (by assumption))
  have ex:(t.map kd)[a.length]? = some (kd x):=by rw [List.getElem?_map,ht,List.getElem?_append_right (Nat.le_refl _)];simp
  have e2:([kd x]==[ch])=q x:=by rw [← hq];show (kd x==ch&&true)=_;rw [Bool.and_true]
  have ec:ev G [some (.str (t.map kd)),some (.int a.length)] σ (.conj [.cmp .lt (.loc 1) (.bi .len [.loc 0]),.cmp .eq (.idx (.loc 0) (.loc 1)) (.str [ch])])=some (.bool (q x),σ):=by
   have:=bK (G:=G) (σ:=σ) (ρ:=[some (.str (t.map kd)),some (.int a.length)]) (a:=.cmp .lt (.loc 1) (.bi .len [.loc 0])) (r:=[.cmp .eq (.idx (.loc 0) (.loc 1)) (.str [ch])]) (p:=decide ((a.length:Int)<(t.map kd).length)) (q:=q x) rfl fun zz=>by
    have:=bK (G:=G) (σ:=σ) (ρ:=[some (.str (t.map kd)),some (.int a.length)]) (r:=[]) (q:=true) (dE (a:=.idx (.loc 0) (.loc 1)) (b:=.str [ch]) (l:=[kd x]) (bJ (dQ rfl ex) rfl rfl) rfl) fun zz=>rfl
    rw [Bool.and_true,e2] at this;exact this
   rw [e1,Bool.true_and] at this;exact this
  cases hx:q x with
  | false =>
   rw [hx] at ec
   rw [List.dropWhile_cons_of_neg (by rw [hx];decide)] at h
   refine .done ec ?_
   rw [show t.length - (x :: b).length=a.length by rw [ht,List.length_append];omega] at h;exact h
  | true =>
   rw [hx] at ec
   rw [List.dropWhile_cons_of_pos hx] at h
   refine .turn ec (.step rfl (.nil ?_))
   have:=xr hq b (a++[x]) m (by rw [ht,aap];rfl) (Nat.lt_of_succ_lt_succ hm) h
   rw [show ((a++[x]).length:Nat)=a.length+1 by simp] at this
   exact this
theorem xt (c:Nat):(kd c==99)=nv c:=by unfold kd nv;cases vow c<;>rfl
theorem pQ (c:Nat):(kd c==118)=vow c:=by unfold kd;cases vow c<;>rfl
theorem C4:∀ {n p X:Nat},X≤n - p→p≤n→Min.min (((n - X:Nat):Int)+1) (n:Int)=((p+((n - p) - (X - 1)):Nat):Int)
 | n,p,0,_,hp=>by
  rw [Nat.zero_sub,Nat.sub_zero,Nat.sub_zero,Nat.add_sub_cancel' hp];exact Int.min_eq_right (Int.le_of_lt (Int.lt_add_one_of_le (Int.le_refl _)))
 | n,p,X+1,h,hp=>by
  have h1:1≤n - X:=Nat.sub_pos_of_lt (Nat.lt_of_lt_of_le h (Nat.sub_le _ _))
  have e:n - (X+1)+1=p+(n - p - X):=(Nat.sub_add_cancel h1).trans ((congrArg (· - X) (Nat.add_sub_cancel' hp)).symm.trans (Nat.add_sub_assoc (Nat.le_of_succ_le h) p))
  show Min.min ((n - (X+1)+1:Nat):Int) n=((p+(n - p - X):Nat):Int)
  rw [e];exact Int.min_eq_left (Int.ofNat_le.mpr (aaf (Nat.add_le_add_left (Nat.sub_le _ _) p) (Nat.le_of_eq (Nat.add_sub_cancel' hp))))
theorem qn (k:Nat) (ht:t.length<900) (hp:p≤t.length):(GG (k+1)).Ψ 8 [.str (t.map kd),.int p]=some (.int (p+aZ (t.drop p):Nat)):=by
 refine dg rfl fun σ=>?_
 have l1:((t.drop p).dropWhile nv).length≤(t.drop p).length:=(List.dropWhile_suffix _).length_le
 have l2:(((t.drop p).dropWhile nv).dropWhile vow).length≤((t.drop p).dropWhile nv).length:=(List.dropWhile_suffix _).length_le
 rw [aal] at l1
 have e1:t=t.take p++t.drop p:=(List.take_append_drop p t).symm
 have ep:(t.take p).length=p:=by rw [List.length_take];exact Nat.min_eq_left hp
 obtain ⟨a2,h2⟩:∃ a2,t.drop p=a2++(t.drop p).dropWhile nv:=by
  obtain ⟨a,h⟩:=List.dropWhile_suffix (l:=t.drop p) nv;exact ⟨a,h.symm⟩
 have e2:t=(t.take p++a2)++(t.drop p).dropWhile nv:=by rw [aap,← h2];exact e1
 have s1:=xr (G:=GG k) (n:=aO) (σ:=σ) (t:=t) (Q:=bW (fun ρ' s=>RB (GG k) aO [.whl (.conj [.cmp .lt (.loc 1) (.bi .len [.loc 0]),.cmp .eq (.idx (.loc 0) (.loc 1)) (.str [118])]) [.aug 1 .add (.int 1)],.ret (.bi .min2 [.bin .add (.loc 1) (.int 1),.bi .len [.loc 0]])] ρ' s (dN fun v' σ'=>v' = .int (p+aZ (t.drop p):Nat)∧σ'=σ)) (dN fun v' σ'=>v' = .int (p+aZ (t.drop p):Nat)∧σ'=σ)) xt (t.drop p) (t.take p) 1000 e1 (by rw [aal];exact Nat.lt_of_le_of_lt (Nat.sub_le _ _) (Nat.lt_of_lt_of_le ht (by decide))) ?_
 ·rw [ep] at s1
  exact .whl s1
 have e3:t.length - ((t.drop p).dropWhile nv).length=(t.take p++a2).length:=by
  have:=congrArg List.length e2
  rw [List.length_append] at this;omega
 rw [e3]
 refine .whl (xr pQ _ _ 1000 e2 (by lia) (.ret (v:=.int (p+aZ (t.drop p):Nat)) ?_ ⟨rfl,rfl⟩))
 show some (V.int (Min.min (((t.length - (((t.drop p).dropWhile nv).dropWhile vow).length:Nat):Int)+1) ((t.map kd).length:Nat)),σ)=_
 rw [List.length_map]
 have eb:aZ (t.drop p)=(t.length - p) - (((t.drop p).dropWhile nv).dropWhile vow).tail.length:=by
  rw [← aal];rfl
 rw [eb,List.length_tail]
 exact congrArg (fun z:Int=>some (V.int z,σ)) (C4 (aaf l2 l1) hp)
end
noncomputable def xu (l:List (List Nat×List Nat)) (r:List Nat):Option (List Nat×List Nat)→Prop
 | none=>∀ f∈l,¬ f.1.reverse <+: r
 | some e=>e∈l∧e.1.reverse <+: r∧∀ f∈l,f.1.reverse <+: r→f.1.length≤e.1.length
noncomputable def szM:Option (List Nat×List Nat)→Nat
 | none=>0
 | some e=>e.1.length
noncomputable def beM:Option (List Nat×List Nat)→List Nat
 | none=>[]
 | some e=>e.2
noncomputable def iX (e:List Nat×List Nat):V:=.tup [.str e.1,.str e.2]
noncomputable def BO:List S:=[.ite (.conj [.cmp .gt (.bi .len [.idx (.loc 3) (.int 0)]) (.loc 5),.sm .ends (.loc 0) (.idx (.loc 3) (.int 0))]) [.setT [5,6] true (.tup [.bi .len [.idx (.loc 3) (.int 0)],.idx (.loc 3) (.int 1)])] []]
section
variable {G:Sg}{k n m p:Nat}{ρ:Rho}{σ:St}{x:X}{xs:List X}{vs:List V}{v:V}{f:Nat}{t r:List Nat}{Q:aP}{T:List (List Nat×List Nat)}
theorem Fj (s r:List Nat):f5 s r.reverse=s.reverse.isPrefixOf r:=by
 rw [Bool.eq_iff_iff,aae]
 unfold f5
 rw [decide_eq_true_iff,← List.reverse_suffix,aaq]
 exact ⟨fun h=>List.suffix_iff_eq_drop.mpr h.2.symm,fun h=>⟨h.length_le,(List.suffix_iff_eq_drop.mp h).symm⟩⟩
theorem Fk (s t:List Nat):f5 s t=s.reverse.isPrefixOf t.reverse:=by
 have:=Fj s t.reverse
 rw [aaq] at this;exact this
theorem jp {a b:X}{l s:List Nat}(h1:ev G ρ σ a=some (.str l,σ)) (h2:ev G ρ σ b=some (.str s,σ)):ev G ρ σ (.sm .ends a b)=some (.bool (s.reverse.isPrefixOf l.reverse),σ):=by
 show (ev G ρ σ a).bind _=_
 rw [h1];show (ev G ρ σ b).bind _=_
 rw [h2];show some (V.bool (f5 s l),σ)=_
 rw [Fk]
theorem BP {L place:Option V}{P:V} : ∀ (l l1:List (List Nat×List Nat)) (g:Option (List Nat×List Nat)) (row:Option V),(∀ e∈l,0<e.1.length)→xu l1 t.reverse g→(∀ g row,xu (l1++l) t.reverse g→Q .next [some (.str t),L,some P,row,place,some (.int (szM g)),some (.str (beM g))] σ) →
 RF G n 3 BO (l.map iX) [some (.str t),L,some P,row,place,some (.int (szM g)),some (.str (beM g))] σ Q
 | [],l1,g,row,_,hi,hQ=>.nil (hQ g row (by rw [List.append_nil];exact hi))
 | e :: l,l1,g,row,hp,hi,hQ=>by
  have next:∀ g',xu (l1++[e]) t.reverse g'→RF G n 3 BO (l.map iX) [some (.str t),L,some P,some (iX e),place,some (.int (szM g')),some (.str (beM g'))] σ Q:=fun g' h=>BP l (l1++[e]) g' _ (fun f hf=>hp f (aag _ hf)) h (by rw [aap];exact hQ)
  have ec:ev G [some (.str t),L,some P,some (iX e),place,some (.int (szM g)),some (.str (beM g))] σ (.conj [.cmp .gt (.bi .len [.idx (.loc 3) (.int 0)]) (.loc 5),.sm .ends (.loc 0) (.idx (.loc 3) (.int 0))])=some (.bool (decide ((e.1.length:Int)>szM g)&&(e.1.reverse.isPrefixOf t.reverse&&true)),σ) :=
   bK rfl fun zz=>bK (jp rfl rfl) fun zz=>rfl
  refine .turn (.ite ec (fun h=>?_) fun h=>?_)
  ·obtain ⟨h1,h2⟩:=aac.mp h
   rw [Bool.and_true] at h2
   have h1:=of_decide_eq_true h1
   have h2:=aae.mp h2
   refine .step rfl (.nil (.nil (next (some e) ⟨aao _ aam,h2,fun f hf hfp=>?_⟩)))
   rcases List.mem_append.mp hf with hf | hf
   ·cases g with
    | none=>exact absurd hfp (hi f hf)
    | some e' =>
     have:=hi.2.2 f hf hfp
     have h1:(e.1.length:Int)>e'.1.length:=h1
     lia
   ·rw [aai.mp hf];exact Nat.le_refl _
  ·refine .nil (.nil (next g ?_))
   have h3:¬ (e.1.reverse <+: t.reverse)∨e.1.length≤szM g:=by
    by_cases q:e.1.reverse <+: t.reverse
    ·right
     rw [aae.mpr q,Bool.and_true,Bool.and_true] at h
     have:=of_decide_eq_false h
     omega
    ·exact .inl q
   cases g with
   | none =>
    intro f hf
    rcases List.mem_append.mp hf with hf | hf
    ·exact hi f hf
    ·rw [aai.mp hf]
     rcases h3 with h3 | h3
     ·exact h3
     ·have:=hp e aam
      have:e.1.length≤0:=h3
      omega
   | some e' =>
    refine ⟨List.mem_append_left _ hi.1,hi.2.1,fun f hf hfp=>?_⟩
    rcases List.mem_append.mp hf with hf | hf
    ·exact hi.2.2 f hf hfp
    ·rw [aai.mp hf] at hfp ⊢
     rcases h3 with h3 | h3
     ·exact absurd hfp h3
     ·exact h3
theorem AL {g:Option (List Nat×List Nat)}(hu:(T.all fun e=>T.all fun f=>!(e.1==f.1)||e.2==f.2)=true) (h:xu T r g):ae (T.map fun e=>(e.1.reverse,e.2)) r=g.map fun e=>(e.1.reverse,e.2):=by
 cases hb:ae (T.map fun e=>(e.1.reverse,e.2)) r with
 | none =>
  cases g with
  | none=>rfl
  | some e=>exact absurd h.2.1 (bl hb (e.1.reverse,e.2) (List.mem_map.mpr ⟨e,h.1,rfl⟩))
 | some x =>
  obtain ⟨hm,hp⟩:=aa hb
  obtain ⟨f,hf,rfl⟩:=List.mem_map.mp hm
  cases g with
  | none=>exact absurd hp (h f hf)
  | some e =>
   obtain ⟨x,h1,h2⟩:=bF (l:=T.map fun e=>(e.1.reverse,e.2)) (f:=(e.1.reverse,e.2)) (r:=r) (List.mem_map.mpr ⟨e,h.1,rfl⟩) h.2.1
   obtain rfl:=aaa (hb.symm.trans h1)
   have h3:=h.2.2 f hf hp
   have h2:e.1.reverse.length≤f.1.reverse.length:=h2
   rw [aad,aad] at h2
   have e1:f.1.reverse=e.1.reverse:=(List.prefix_of_prefix_length_le hp h.2.1 (by rw [aad,aad];exact h3)).eq_of_length (by rw [aad,aad];lia)
   have e1:=List.reverse_inj.mp e1
   have:=aab.mp (aab.mp hu f hf) e h.1
   rw [e1,beq_self_eq_true,Bool.not_true,Bool.false_or] at this
   have:=eq_of_beq this
   show some (f.1.reverse,f.2)=some (e.1.reverse,e.2)
   rw [e1,this]
theorem ti (k:Nat) (hT:(T.all fun e=>Nat.blt 0 e.1.length)=true) (hu:(T.all fun e=>T.all fun f=>!(e.1==f.1)||e.2==f.2)=true) (hp:1≤p):(GG (k+1)).Ψ 9 [.str t,.list (T.map iX),.int p]=some (.bool (dy (T.map fun e=>(e.1.reverse,e.2)) p t.reverse)):=by
 refine dg rfl fun σ=>.step rfl (.for1 rfl rfl (BP T [] none none (fun e he=>aan (aab.mp hT e he)) (fun f hf=>absurd hf List.not_mem_nil) fun g row hi=>.set rfl (.ret ?_ ⟨rfl,rfl⟩)))
 unfold dy
 rw [AL hu hi]
 cases g with
 | none=>rfl
 | some e =>
  have hl:=hi.2.1.length_le
  rw [aad,aad] at hl
  have pos:0<e.1.length:=aan (aab.mp hT e hi.1)
  show ev _ [some (.str t),some (.list (T.map iX)),some (.int p),row,some (.int ((t.length:Int) - e.1.length)),some (.int e.1.length),some (.str e.2)] σ _=some (.bool (Eng.inR p t.reverse e.1.reverse.length&&(e.2.isEmpty||bC e.2 (t.reverse.drop e.1.reverse.length))),σ)
  rw [aad]
  have e1:decide ((e.1.length:Int)>0)=true:=decide_eq_true (Int.ofNat_lt.mpr pos)
  have e2:decide ((t.length:Int) - e.1.length≥p)=Eng.inR p t.reverse e.1.length:=by
   unfold Eng.inR
   rw [aad,← Int.ofNat_sub hl];exact decide_eq_decide.mpr Int.ofNat_le
  have:=bK (G:=⟨P2,(FF k).1,(FF k).2⟩) (σ:=σ) (ρ:=[some (.str t),some (.list (T.map iX)),some (.int p),row,some (.int ((t.length:Int) - e.1.length)),some (.int e.1.length),some (.str e.2)]) (a:=.cmp .gt (.loc 5) (.int 0)) (r:=[.cmp .ge (.loc 4) (.loc 2),.disj [.cmp .eq (.loc 6) (.str []),.cmp .isin (.idx (.loc 0) (.bin .sub (.loc 4) (.int 1))) (.loc 6)]]) (p:=decide ((e.1.length:Int)>0)) (q:=Eng.inR p t.reverse e.1.length&&((e.2.isEmpty||bC e.2 (t.reverse.drop e.1.length))&&true)) rfl fun zz=>by
   rw [← e2]
   refine bK rfl fun h=>?_
   have h:=of_decide_eq_true h
   have ps:0<t.length - e.1.length:=Nat.lt_of_lt_of_le hp (Int.ofNat_le.mp (by rw [Int.ofNat_sub hl];exact h))
   refine bK ?_ fun zz=>rfl
   have en:(e.2==[])=e.2.isEmpty:=by cases e.2<;>rfl
   rw [← en]
   refine eo (dE rfl rfl) fun zz=>?_
   obtain ⟨c,hc⟩:∃ c,t[t.length - e.1.length - 1]? = some c:=⟨_,List.getElem?_eq_getElem (Nat.lt_of_lt_of_le (Nat.sub_lt ps (by decide)) (Nat.sub_le _ _))⟩
   have hd:t.reverse.drop e.1.length=c :: t.reverse.drop (e.1.length+1):=by
    have:t.reverse[e.1.length]? = some c:=by rw [List.getElem?_reverse (Nat.lt_of_sub_pos ps),Nat.sub_right_comm];exact hc
    obtain ⟨h1,h2⟩:=List.getElem?_eq_some_iff.mp this
    rw [List.drop_eq_getElem_cons h1,h2]
   have ei:=cK (G:=⟨P2,(FF k).1,(FF k).2⟩) (σ:=σ) (ρ:=[some (.str t),some (.list (T.map iX)),some (.int p),row,some (.int ((t.length:Int) - e.1.length)),some (.int e.1.length),some (.str e.2)]) (a:=.idx (.loc 0) (.bin .sub (.loc 4) (.int 1))) (b:=.loc 6) (bJ (dQ (j:=(t.length:Int) - e.1.length - 1) (by rw [Int.ofNat_sub ps,Int.ofNat_sub hl];rfl) hc) rfl rfl) rfl (gV e.2 c)
   have:=eo (r:=[]) (q:=false) ei fun zz=>rfl
   rw [Bool.or_false] at this
   rw [hd];exact this
  rw [e1,Bool.true_and,Bool.and_true] at this
  exact this
theorem C5:(eL.map fun e=>(e.1.reverse,e.2))=gG:=by decide +kernel
theorem Fm:(gA.map fun e=>(e.1.reverse,e.2))=far:=by decide +kernel
theorem vH:(eL.all fun e=>Nat.blt 0 e.1.length)=true∧(eL.all fun e=>eL.all fun f=>!(e.1==f.1)||e.2==f.2)=true:=by decide +kernel
theorem yZ:(gA.all fun e=>Nat.blt 0 e.1.length)=true∧(gA.all fun e=>gA.all fun f=>!(e.1==f.1)||e.2==f.2)=true:=by decide +kernel
end
end Mine
end
section
namespace Mine.Eng
theorem jP {p:Nat}{r:W}{a b:Nat}(h:a≤b) (i:inR p r b=true):inR p r a=true:=by
 have:=of_decide_eq_true i
 exact decide_eq_true (aaf this (Nat.sub_le_sub_left h _))
theorem y0 (q:W):bC [108] q=(q.head?==some 108):=by
 cases q with
 | nil=>rfl
 | cons c q=>show ([108].contains c)=(some c==some 108);rw [Bool.eq_iff_iff];simp
noncomputable def t3n:List (W×Unit):=gC [("icate",()),("alize",()),("iciti",()),("ical",()),("tional",()),("ational",()),("ful",()),("ness",())]
noncomputable def xv (p1:Nat) (r:W):Bool:=match ae t3n r with
 | some (s,_)=>inR p1 r s.length
 | none=>false
noncomputable def oJ:List (W×Unit):=(t2.map fun e=>(e.1,()))++gG.map fun e=>(e.1,())
noncomputable def Hb (n:Nat):Option (W×Act)→Bool
 | some (s,.to _)=>decide (n≤s.length)
 | some _=>false
 | none=>true
noncomputable def HN (n:Nat):Option (W×Act)→Bool
 | some (s,.to _)=>decide (s.length=n)
 | _=>false
noncomputable def Hc (n:Nat):Option (W×Unit)→Bool
 | some (s,_)=>decide (n≤s.length)
 | none=>true
noncomputable def HO (n:Nat):Option (W×Unit)→Bool
 | some (s,_)=>decide (s.length=n)
 | none=>false
noncomputable def y3 (u:W):Bool:=match ae gG u with
 | some (s,b) =>
  if b.isEmpty then Hb s.length (ae t2 u)&&Hc s.length (ae t3n u)&&(HN s.length (ae t2 u)||HO s.length (ae t3n u))
  else (ae t3n u).isNone&&(match ae t2 u with
   | some (s2,.ogi)=>s==rk "ogi"&&s2==rk "ogi"&&b==[108]
   | some (s2,.li)=>s==rk "li"&&s2==rk "li"&&b==ks "cdeghkmnrt"
   | _=>false)
 | none=>false
theorem AM:(oJ.all fun u=>y3 u.1)=true:=by decide
theorem vI:(t2.all fun e=>oJ.any fun f=>f.1==e.1)=true:=by decide
theorem vJ:(gG.all fun e=>oJ.any fun f=>f.1==e.1)=true:=by decide
theorem vK:(t3n.all fun e=>oJ.any fun f=>f.1==e.1)=true:=by decide
theorem C6 (p1:Nat) (r:W):(ch2 p1 r||xv p1 r)=dy gG p1 r:=by
 unfold ch2 xv dy
 cases h:ae oJ r with
 | none=>rw [g6 vI h,g6 vK h,g6 vJ h];rfl
 | some u =>
  have ok:=aab.mp AM u (aa h).1
  rw [gZ vI h,gZ vK h,gZ vJ h]
  unfold y3 at ok
  cases hn:ae gG u.1 with
  | none=>rw [hn] at ok;injection ok
  | some e =>
   obtain ⟨s,b⟩:=e
   rw [hn] at ok
   dsimp only at ok ⊢
   cases hb:b.isEmpty with
   | true =>
    rw [hb,if_pos rfl] at ok
    obtain ⟨ok,k3⟩:=aac.mp ok
    obtain ⟨k1,k2⟩:=aac.mp ok
    rw [Bool.true_or,Bool.and_true]
    cases h2:ae t2 u.1 with
    | none =>
     rw [h2] at k1 k3
     cases h3:ae t3n u.1 with
     | none=>rw [h3] at k3;injection k3
     | some e3 =>
      rw [h3] at k3
      have:e3.1.length=s.length:=of_decide_eq_true k3
      dsimp only;rw [this];rfl
    | some e2 =>
     obtain ⟨s2,a⟩:=e2
     rw [h2] at k1 k3
     cases a with
     | to t =>
      have l2:s.length≤s2.length:=of_decide_eq_true k1
      show ((inR p1 r s2.length&&true)||_)=_
      rw [Bool.and_true]
      cases h3:ae t3n u.1 with
      | none =>
       rw [h3] at k3
       have:s2.length=s.length:=by
        rcases Bool.or_eq_true_iff.mp k3 with z | z
        ·exact of_decide_eq_true z
        ·injection z
       rw [this,Bool.or_false]
      | some e3 =>
       rw [h3] at k2 k3
       have l3:s.length≤e3.1.length:=of_decide_eq_true k2
       dsimp only
       rw [Bool.eq_iff_iff,Bool.or_eq_true_iff]
       constructor
       ·rintro (z | z)
        ·exact jP l2 z
        ·exact jP l3 z
       ·intro z
        rcases Bool.or_eq_true_iff.mp k3 with q | q
        ·exact .inl ((of_decide_eq_true q:s2.length=s.length)▸z)
        ·exact .inr ((of_decide_eq_true q:e3.1.length=s.length)▸z)
     | ogi=>injection k1
     | li=>injection k1
   | false =>
    rw [hb,if_neg (by decide)] at ok
    obtain ⟨k1,k2⟩:=aac.mp ok
    rw [Option.isNone_iff_eq_none.mp k1,Bool.or_false,Bool.false_or]
    cases h2:ae t2 u.1 with
    | none=>rw [h2] at k2;injection k2
    | some e2 =>
     obtain ⟨s2,a⟩:=e2
     rw [h2] at k2
     cases a with
     | to t=>injection k2
     | ogi =>
      obtain ⟨k2,q3⟩:=aac.mp k2
      obtain ⟨q1,q2⟩:=aac.mp k2
      rw [eq_of_beq q1,eq_of_beq q2,eq_of_beq q3]
      show (_&&((r.drop 3).head?==some 108))=(_&&bC [108] (r.drop 3))
      rw [y0]
     | li =>
      obtain ⟨k2,q3⟩:=aac.mp k2
      obtain ⟨q1,q2⟩:=aac.mp k2
      rw [eq_of_beq q1,eq_of_beq q2,eq_of_beq q3]
      rfl
noncomputable def dh (p2:Nat) (r:W):Bool:=(rk "ative").isPrefixOf r&&inR p2 r 5
noncomputable def fX (p2:Nat) (r:W):Bool:=match r with
 | 101 :: _=>inR p2 r 1
 | 108 :: q=>inR p2 r 1&&q.head?==some 108
 | _=>false
noncomputable def oK:List (W×Unit):=(t4.map fun e=>(e.1,()))++far.map fun e=>(e.1,())
noncomputable def BQ (u:W):Bool:=match ae far u with
 | some (s,b) =>
  if s==rk "e" then b.isEmpty&&u.head?==some 101&&(match ae t4 u with | some (_,plain)=>plain | none=>true)
  else if s==rk "l" then b==[108]&&u==[108]&&(ae t4 u).isNone
  else (match ae t4 u with
   | some (s4,plain)=>s4==s&&(plain&&b.isEmpty||(!plain&&b==[115,116]&&s.length==3)) | none=>false)&&!(u.head?==some 101)&&(!(u.head?==some 108)||u.take 2==[108,97])
 | none=>false
theorem C7:(oK.all fun u=>BQ u.1)=true:=by decide
theorem y4:(t4.all fun e=>oK.any fun f=>f.1==e.1)=true:=by decide
theorem y5:(far.all fun e=>oK.any fun f=>f.1==e.1)=true:=by decide
set_option tactic.hygienic true in
theorem C8 {p2:Nat}{r:W}(h:ae oK r=none):fX p2 r=false:=by
 have e:=bl h (rk "e",()) (by decide)
 have l:=bl h (rk "l",()) (by decide)
 unfold fX
 split
 ·rename_i q;exact absurd ⟨q,rfl⟩ e
 ·rename_i q;exact absurd ⟨q,rfl⟩ l
 ·rfl
set_option tactic.hygienic true in
theorem Fn (p2:Nat) (r:W):(dh p2 r||(ch4 p2 r||fX p2 r))=dy far p2 r:=by
 have at_:dh p2 r=true→fX p2 r=true:=fun z=>by
  obtain ⟨z1,z2⟩:=aac.mp z
  obtain ⟨q,rfl⟩:=aae.mp z1
  exact jP (by decide) z2
 have drop_at:(dh p2 r||(ch4 p2 r||fX p2 r))=(ch4 p2 r||fX p2 r):=by
  cases z:dh p2 r with
  | false=>rfl
  | true=>rw [at_ z,Bool.or_true];rfl
 rw [drop_at]
 clear at_ drop_at
 unfold ch4 dy
 cases h:ae oK r with
 | none=>rw [g6 y4 h,g6 y5 h,C8 h];rfl
 | some u =>
  have ok:=aab.mp C7 u (aa h).1
  obtain ⟨q,hq⟩:=(aa h).2
  rw [gZ y4 h,gZ y5 h]
  unfold BQ at ok
  cases hn:ae far u.1 with
  | none=>rw [hn] at ok;injection ok
  | some e =>
   obtain ⟨s,b⟩:=e
   rw [hn] at ok
   dsimp only at ok ⊢
   by_cases se:s=rk "e"
   ·rw [if_pos (beq_iff_eq.mpr se)] at ok
    obtain ⟨ok,k3⟩:=aac.mp ok
    obtain ⟨k1,k2⟩:=aac.mp ok
    have r1:∃ q,r=101 :: q:=by
     cases hu:u.1 with
     | nil=>rw [hu] at k2;injection k2
     | cons c t =>
      rw [hu] at k2 hq
      have k2:c=101:=aaa (eq_of_beq k2)
      exact ⟨t++q,by rw [← hq,k2];rfl⟩
    obtain ⟨q',rfl⟩:=r1
    have c5:fX p2 (101 :: q')=inR p2 (101 :: q') 1:=rfl
    rw [c5,k1,Bool.true_or,Bool.and_true,se]
    show _=inR p2 (101 :: q') 1
    cases h4:ae t4 u.1 with
    | none=>rfl
    | some e4 =>
     obtain ⟨s4,plain⟩:=e4
     have z:0<s4.length:=n9 _ (aa h4).1
     dsimp only
     rw [Bool.eq_iff_iff,Bool.or_eq_true_iff]
     exact ⟨fun w=>w.elim (fun w=>jP z (aac.mp w).1) id,.inr⟩
   ·rw [if_neg (by rw [beq_iff_eq];exact se)] at ok
    by_cases sl:s=rk "l"
    ·rw [if_pos (beq_iff_eq.mpr sl)] at ok
     obtain ⟨ok,k3⟩:=aac.mp ok
     obtain ⟨k1,k2⟩:=aac.mp ok
     rw [eq_of_beq k2] at hq
     rw [Option.isNone_iff_eq_none.mp k3,← hq,eq_of_beq k1,sl]
     show (false||(inR p2 (108 :: q) 1&&(q.head?==some 108)))=(inR p2 (108 :: q) 1&&(false||bC [108] q))
     rw [y0];rfl
    ·rw [if_neg (by rw [beq_iff_eq];exact sl)] at ok
     obtain ⟨ok,k3⟩:=aac.mp ok
     obtain ⟨k1,k2⟩:=aac.mp ok
     have c5:fX p2 r=false:=by
      have hl:∀ t,r=108 :: t→¬ t.head? = some 108:=fun t ht hh=>by
       cases hu:u.1 with
       | nil=>rw [hu,show ae far []=none from by decide] at hn;injection hn
       | cons c v =>
        rw [hu] at hq k3
        have hc:c=108:=by rw [ht] at hq;exact (List.cons.inj hq).1
        subst hc
        have k3:(108 :: v).take 2=[108,97]:=by
         rcases Bool.or_eq_true_iff.mp k3 with z | z
         ·injection z
         ·exact eq_of_beq z
        cases v with
        | nil=>cases k3
        | cons d v =>
         have hd:d=97:=by simpa using k3
         rw [ht] at hq
         have:=(List.cons.inj hq).2
         rw [← this,hd] at hh
         (injection hh with hE;cases hE)
      have he:∀ t,r≠101 :: t:=fun t ht=>by
       cases hu:u.1 with
       | nil=>rw [hu,show ae far []=none from by decide] at hn;injection hn
       | cons c v =>
        rw [hu] at hq k2
        have hc:c=101:=by rw [ht] at hq;exact (List.cons.inj hq).1
        rw [hc] at k2;exact absurd k2 (by simp)
      unfold fX
      split
      ·rename_i t;exact absurd rfl (he t)
      ·rename_i t
       rw [show (t.head?==some 108)=false from beq_eq_false_iff_ne.mpr (hl t rfl),Bool.and_false]
      ·rfl
     rw [c5,Bool.or_false]
     cases h4:ae t4 u.1 with
     | none=>rw [h4] at k1;injection k1
     | some e4 =>
      obtain ⟨s4,plain⟩:=e4
      rw [h4] at k1
      obtain ⟨q1,q2⟩:=aac.mp k1
      rw [eq_of_beq q1]
      cases plain with
      | true =>
       have q2:b.isEmpty=true:=by simpa using q2
       dsimp only
       rw [q2];rfl
      | false =>
       have q2:(b==[115,116]&&s.length==3)=true:=by simpa using q2
       obtain ⟨z1,z2⟩:=aac.mp q2
       dsimp only
       rw [eq_of_beq z1,eq_of_beq z2];rfl
noncomputable def eX (r:W):Bool:=match ae t1a r with
 | some (_,1)=>true
 | some (_,2)=>true
 | some (_,3)=>(r.drop 2).any vow
 | _=>false
noncomputable def gq:List W:=["succ","proc","exc"].map rk
noncomputable def d0:List W:=["even","cann","inn","earr","herr","out"].map rk
noncomputable def cH (p1:Nat) (r:W):Bool:=match ae t1b r with
 | some (s,1)=>inR p1 r s.length&&!gq.contains (r.drop s.length)
 | some (s,2)=>(r.drop s.length).any vow
 | some (_,3)=>!d0.contains (r.drop 3)&&(r.drop 3).any vow
 | _=>false
noncomputable def dz (r:W):Bool:=match r with
 | y :: c :: d :: _=>(y==121||y==89)&&!vow c
 | _=>false
theorem dF {r:W} : r=r↔false=false:=⟨fun zz=>rfl,fun zz=>rfl⟩
theorem oL {x r:W}(h:x≠r):x=r↔true=false:=⟨fun e=>absurd e h,fun e=>Bool.noConfusion e⟩
theorem xw (r:W):a9 r=r↔eX r=false:=by
 unfold a9 eX
 cases h:ae t1a r with
 | none=>exact dF
 | some e =>
  obtain ⟨s,k⟩:=e
  have z:0<r.length:=dD (s:=s) (aa h).2 (lB _ (aa h).1)
  match k with
  | 0=>exact dF
  | 1=>exact oL (fa (by decide) z)
  | 2 =>
   refine oL ?_
   show (if 2≤(r.drop 3).length then r.drop 2 else r.drop 1)≠r
   split
   ·exact fa (by decide) z
   ·exact fa (by decide) z
  | 3=>exact et (fa (by decide) z)
  | _+4=>exact dF
theorem mR {x r:W}(h:x.length<r.length):x≠r:=fun e=>by rw [e] at h;exact Nat.lt_irrefl _ h
theorem pR (p1 k:Nat) (r:W) (h2:2≤k) (hk:k≤r.length):bL p1 k r=r↔(r.drop k).any vow=false:=by
 unfold bL
 refine et (mR ?_)
 have:=pK p1 (r.drop k)
 rw [aal] at this
 omega
theorem qR (p1:Nat) (r:W):aY p1 r=r↔cH p1 r=false:=by
 unfold aY cH
 cases h:ae t1b r with
 | none=>exact dF
 | some e =>
  obtain ⟨s,k⟩:=e
  have l:s.length≤r.length:=(aa h).2.length_le
  have tw:=em _ (aa h).1
  match k,tw with
  | 0,_=>exact dF
  | 1,tw =>
   have z:3≤s.length:=tw.2.1 rfl
   show (if (inR p1 r s.length&&!gq.contains (r.drop s.length))=true then _ else r)=r↔_
   exact et (mR (by simp only [List.length_cons,aal];omega))
  | 2,tw=>exact pR _ _ _ tw.1 l
  | 3,tw =>
   have z:s.length=3:=tw.2.2 rfl
   show (if d0.contains (r.drop 3)=true then r else _)=r↔(!d0.contains (r.drop 3)&&(r.drop 3).any vow)=false
   cases d0.contains (r.drop 3) with
   | true=>exact dF
   | false =>
    rw [if_neg (by decide)]
    show _↔(true&&(r.drop 3).any vow)=false
    rw [Bool.true_and]
    split
    ·rename_i c q
     have len:=congrArg List.length q
     simp only [aal,List.length_cons,List.length_nil] at len
     split
     ·exact pR _ _ _ (by decide) (by omega)
     ·rw [q]
      exact ⟨fun e=>absurd e (mR (by simp only [List.length_cons,List.length_nil];omega)),fun e=>by simp [vow] at e⟩
    ·exact pR _ _ _ (by decide) (by omega)
  | _+4,_=>exact dF
theorem qS:∀ r:W,ao r=r↔dz r=false
 | []=>dF
 | [_]=>dF
 | [_,_]=>dF
 | y :: c :: d :: q=>by
  show (if ((y==121||y==89)&&!vow c)=true then 105 :: c :: d :: q else y :: c :: d :: q)=_↔((y==121||y==89)&&!vow c)=false
  cases h:((y==121||y==89)&&!vow c) with
  | false=>exact dF
  | true =>
   refine oL fun e=>?_
   have hy:105=y:=(List.cons.inj e).1
   subst hy
   injection h
noncomputable def e5 (p1:Nat) (r:W):Bool:=match r with
 | 101 :: q=>inR p1 r 1&&!aF q
 | _=>false
theorem qo (p1 p2:Nat) (r:W):ch5 p1 p2 r=(fX p2 r||e5 p1 r):=by
 cases r with
 | nil=>rfl
 | cons c q =>
  by_cases h:c=101
  ·subst h;rfl
  ·by_cases h':c=108
   ·subst h'
    show (inR p2 (108 :: q) 1&&q.head?==some 108)=((inR p2 (108 :: q) 1&&q.head?==some 108)||false)
    rw [Bool.or_false]
   ·have a:ch5 p1 p2 (c :: q)=false:=by
     unfold ch5;split
     ·rename_i e;exact absurd (List.cons.inj e).1 h
     ·rename_i e;exact absurd (List.cons.inj e).1 h'
     ·rfl
    have b:fX p2 (c :: q)=false:=by
     unfold fX;split
     ·rename_i e;exact absurd (List.cons.inj e).1 h
     ·rename_i e;exact absurd (List.cons.inj e).1 h'
     ·rfl
    have d:e5 p1 (c :: q)=false:=by
     unfold e5;split
     ·rename_i e;exact absurd (List.cons.inj e).1 h
     ·rfl
    rw [a,b,d];rfl
theorem AN:(t3.all fun e=>(ae t3n e.1).isSome==!(e.1==rk "ative")&&match ae t3n e.1 with | some (s,_)=>s==e.1&&!e.2.1 | none=>e.2.1)=true:=by decide
theorem BR:(t3n.all fun e=>t3.any fun f=>f.1==e.1)=true:=by decide
theorem y6 {p1 p2:Nat}(r:W) (hp:p1≤p2):ch3 p1 p2 r=(xv p1 r||dh p2 r):=by
 unfold ch3 xv
 have up:∀ k,inR p2 r k=true→inR p1 r k=true:=fun k h=>decide_eq_true (aaf hp (of_decide_eq_true h))
 cases h:ae t3 r with
 | none =>
  rw [g6 BR h]
  have:dh p2 r=false:=by
   cases z:(rk "ative").isPrefixOf r with
   | false=>unfold dh;rw [z];rfl
   | true=>exact absurd (aae.mp z) (bl h (rk "ative",true,[]) (by decide))
  rw [this];rfl
 | some e =>
  obtain ⟨s,two,t⟩:=e
  have k:=aab.mp AN _ (aa h).1
  rw [gZ BR h]
  dsimp only at k ⊢
  obtain ⟨k1,k2⟩:=aac.mp k
  cases hn:ae t3n s with
  | none =>
   rw [hn] at k1 k2
   have sa:s=rk "ative":=by
    have:(false==!(s==rk "ative"))=true:=k1
    cases z:(s==rk "ative") with
    | true=>exact eq_of_beq z
    | false=>rw [z] at this;injection this
   have two_:two=true:=k2
   have pa:(rk "ative").isPrefixOf r=true:=aae.mpr (sa▸(aa h).2)
   show _=(false||dh p2 r)
   unfold dh
   rw [pa,two_,sa]
   show (inR p1 r 5&&(false||inR p2 r 5))=(false||(true&&inR p2 r 5))
   cases z:inR p2 r 5 with
   | false=>simp
   | true=>rw [up 5 z];rfl
  | some f =>
   obtain ⟨s',_⟩:=f
   rw [hn] at k1 k2
   obtain ⟨k2,k3⟩:=aac.mp k2
   have two_:two=false:=by simpa using k3
   have se:s'=s:=eq_of_beq k2
   rw [two_,se]
   have na:dh p2 r=false:=by
    cases z:(rk "ative").isPrefixOf r with
    | false=>unfold dh;rw [z];rfl
    | true =>
     exfalso
     have pa:=aae.mp z
     have ps:s <+: r:=(aa h).2
     have no:(t3.all fun e=>(e.1==rk "ative")||(!(e.1.isPrefixOf (rk "ative"))&&!((rk "ative").isPrefixOf e.1)))=true:=by decide
     have w:=aab.mp no _ (aa h).1
     have w:(s==rk "ative"||(!(s.isPrefixOf (rk "ative"))&&!((rk "ative").isPrefixOf s)))=true:=w
     have ns:(s==rk "ative")=false:=by
      have:(true==!(s==rk "ative"))=true:=k1
      cases z:(s==rk "ative") with
      | false=>rfl
      | true=>rw [z] at this;injection this
     rw [ns,Bool.false_or] at w
     obtain ⟨w1,w2⟩:=aac.mp w
     rcases Nat.le_total s.length (rk "ative").length with q | q
     ·rw [aae.mpr (List.prefix_of_prefix_length_le ps pa q)] at w1;injection w1
     ·rw [aae.mpr (List.prefix_of_prefix_length_le pa ps q)] at w2;injection w2
   rw [na,Bool.or_false]
   show (inR p1 r s.length&&(true||inR p2 r s.length))=inR p1 r s.length
   rw [Bool.true_or,Bool.and_true]
noncomputable def bB (p1:Nat) (r:W):Bool :=
 if ((rk "us").isPrefixOf r||(rk "ss").isPrefixOf r)=true then true
 else if (rk "s").isPrefixOf r=true then !(rk "sses").isPrefixOf r&&!(r.drop 2).any vow
 else if (rk "eed").isPrefixOf r=true then !inR p1 r 3||gq.contains (r.drop 3)
 else if (rk "ed").isPrefixOf r=true then !(r.drop 2).any vow
 else if (rk "ing").isPrefixOf r=true then !(r.drop 3).any vow||d0.contains (r.drop 3)
 else if (r.head?==some 121||r.head?==some 89)=true then bC [97,101,105,111,117,121] (r.drop 1)
 else if ((rk "e").isPrefixOf r&&inR p1 r 1)=true then aF (r.drop 1)
 else true
theorem qp {α:Type}{l:List (W×α)}{hs:List Nat}(hl:(l.all fun e=>match e.1 with | a :: _=>hs.contains a | []=>false)=true) {c:Nat}{q:W}(hc:hs.contains c=false):ae l (c :: q)=none:=by
 cases h:ae l (c :: q) with
 | none=>rfl
 | some e =>
  have z:=aab.mp hl _ (aa h).1
  obtain ⟨t,ht⟩:=(aa h).2
  cases he:e.1 with
  | nil=>rw [he] at z;injection z
  | cons a v =>
   rw [he] at z ht
   have:a=c:=(List.cons.inj ht).1
   subst this
   have z:hs.contains a=true:=z
   rw [hc] at z;injection z
theorem h1a:(t1a.all fun e=>match e.1 with | a :: _=>[115,100].contains a | []=>false)=true:=by decide
theorem h1b:(t1b.all fun e=>match e.1 with | a :: _=>[100,103,121].contains a | []=>false)=true:=by decide
theorem g7 {c:Nat}{q:W}(hc:[115,100].contains c=false):eX (c :: q)=false:=by unfold eX;rw [qp h1a hc]
theorem g8 {p1 c:Nat}{q:W}(hc:[100,103,121].contains c=false):cH p1 (c :: q)=false:=by unfold cH;rw [qp h1b hc]
theorem g9 {c:Nat}{q:W}(hc:(c==121||c==89)=false):dz (c :: q)=false:=by
 match q with
 | []=>rfl
 | [_]=>rfl
 | a :: b :: q=>show ((c==121||c==89)&&!vow a)=false;rw [hc];rfl
theorem jQ {p1 c:Nat}{q:W}(hc:c≠101):e5 p1 (c :: q)=false:=by
 unfold e5;split
 ·rename_i e;exact absurd (List.cons.inj e).1 hc
 ·rfl
theorem pf {k r:W}(h:¬ k <+: r):k.isPrefixOf r=false:=by
 cases z:k.isPrefixOf r with
 | false=>rfl
 | true=>exact absurd (aae.mp z) h
theorem bx {a c:Nat}{k q:W}(h:a≠c):(a :: k).isPrefixOf (c :: q)=false:=by
 show (a==c&&k.isPrefixOf q)=false
 rw [beq_eq_false_iff_ne.mpr h];rfl
noncomputable def chg (p1:Nat) (r:W):Bool:=eX r||(cH p1 r||(dz r||e5 p1 r))
theorem Fo (p1:Nat) (q:W):chg p1 (115 :: q) = !bB p1 (115 :: q):=by
 have e:chg p1 (115 :: q)=eX (115 :: q):=by
  unfold chg
  rw [g8 (by decide),g9 (by decide),jQ (by decide)];simp only [Bool.or_false]
 rw [e]
 have hs:rk "s" <+: 115 :: q:=⟨q,rfl⟩
 unfold eX
 cases h:ae t1a (115 :: q) with
 | none=>exact absurd hs (bl h (rk "s",3) (by decide))
 | some u =>
  obtain ⟨s,k⟩:=u
  have mem:=(aa h).1
  have pre:s <+: 115 :: q:=(aa h).2
  have mx:∀ f∈t1a,f.1 <+: 115 :: q→f.1.length≤s.length:=fun f hf hp=>by
   obtain ⟨e,he,l⟩:=bF hf hp
   rw [h] at he;obtain rfl:=aaa he;exact l
  have cases6:(s,k)=(rk "ied",2)∨(s,k)=(rk "s",3)∨(s,k)=(rk "ies",2)∨(s,k)=(rk "sses",1)∨(s,k)=(rk "ss",0)∨(s,k)=(rk "us",0):=by
   have:(s,k)∈[(rk "ied",2),(rk "s",3),(rk "ies",2),(rk "sses",1),(rk "ss",0),(rk "us",0)]:=mem
   simpa using this
  rcases cases6 with z | z | z | z | z | z<;>(obtain ⟨rfl,rfl⟩:=Prod.mk.inj z)
  ·obtain ⟨t,ht⟩:=pre;exact absurd (List.cons.inj ht).1 (by decide)
  ·have a1:(rk "us").isPrefixOf (115 :: q)=false:=pf fun p=>absurd (mx (rk "us",0) (by decide) p) (by decide)
   have a2:(rk "ss").isPrefixOf (115 :: q)=false:=pf fun p=>absurd (mx (rk "ss",0) (by decide) p) (by decide)
   have a3:(rk "sses").isPrefixOf (115 :: q)=false:=pf fun p=>absurd (mx (rk "sses",1) (by decide) p) (by decide)
   unfold bB
   rw [a1,a2,a3,if_neg (by decide),if_pos (by rfl)]
   show ((115 :: q).drop 2).any vow = !(!false&&!((115 :: q).drop 2).any vow)
   simp
  ·obtain ⟨t,ht⟩:=pre
   rw [← ht];rfl
  ·obtain ⟨t,ht⟩:=pre
   rw [← ht];rfl
  ·obtain ⟨t,ht⟩:=pre
   rw [← ht];rfl
  ·obtain ⟨t,ht⟩:=pre
   rw [← ht];rfl
theorem Fp (p1:Nat) (q:W):chg p1 (100 :: q) = !bB p1 (100 :: q):=by
 have e:chg p1 (100 :: q)=(eX (100 :: q)||cH p1 (100 :: q)):=by
  unfold chg
  rw [g9 (by decide),jQ (by decide)];simp only [Bool.or_false]
 have t:bB p1 (100 :: q)=if (rk "eed").isPrefixOf (100 :: q)=true then !inR p1 (100 :: q) 3||gq.contains ((100 :: q).drop 3) else if (rk "ed").isPrefixOf (100 :: q)=true then !((100 :: q).drop 2).any vow else true:=by
  unfold bB
  rw [if_neg (by rw [show (rk "us").isPrefixOf (100 :: q)=false from bx (by decide),show (rk "ss").isPrefixOf (100 :: q)=false from bx (by decide)];decide),
   if_neg (by rw [show (rk "s").isPrefixOf (100 :: q)=false from bx (by decide)];decide),
   show (rk "ing").isPrefixOf (100 :: q)=false from bx (by decide),show (rk "e").isPrefixOf (100 :: q)=false from bx (by decide)]
  rfl
 rw [e,t]
 cases hd:(rk "ed").isPrefixOf (100 :: q) with
 | false =>
  have no:∀ k:W,rk "ed" <+: k→k.isPrefixOf (100 :: q)=false:=fun k hk=>pf fun p=>by
   rw [aae.mpr (hk.trans p)] at hd;injection hd
  have a:eX (100 :: q)=false:=by
   unfold eX
   cases h:ae t1a (100 :: q) with
   | none=>rfl
   | some u =>
    exfalso
    have w:(t1a.all fun e=>(rk "ed").isPrefixOf e.1||e.1.head?==some 115)=true:=by decide
    have w:=aab.mp w _ (aa h).1
    rcases Bool.or_eq_true_iff.mp w with z | z
    ·rw [aae.mpr ((aae.mp z).trans (aa h).2)] at hd;injection hd
    ·obtain ⟨v,hv⟩:=(aa h).2
     have z:=eq_of_beq z
     cases hu:u.1 with
     | nil=>rw [hu] at z;injection z
     | cons c v'=>rw [hu] at z hv;rw [(List.cons.inj hv).1] at z;(injection z with hE;cases hE)
  have b:cH p1 (100 :: q)=false:=by
   unfold cH
   cases h:ae t1b (100 :: q) with
   | none=>rfl
   | some u =>
    exfalso
    have w:(t1b.all fun e=>(rk "ed").isPrefixOf e.1||!(e.1.head?==some 100))=true:=by decide
    have w:=aab.mp w _ (aa h).1
    rcases Bool.or_eq_true_iff.mp w with z | z
    ·rw [aae.mpr ((aae.mp z).trans (aa h).2)] at hd;injection hd
    ·obtain ⟨v,hv⟩:=(aa h).2
     have tw:=(em _ (aa h).1).1
     cases hu:u.1 with
     | nil=>rw [hu] at tw;exact absurd tw (by decide)
     | cons c v'=>rw [hu] at z hv;rw [(List.cons.inj hv).1] at z;exact absurd z (by simp)
  rw [a,b,no (rk "eed") ⟨[101],rfl⟩]
  rfl
 | true =>
  obtain ⟨v,hv⟩:=aae.mp hd
  rw [← hv]
  show (eX (100 :: 101 :: v)||cH p1 (100 :: 101 :: v))=_
  by_cases i:∃ t,v=105 :: t
  ·obtain ⟨t,rfl⟩:=i;rfl
  ·by_cases ee:∃ t,v=101 :: t
   ·obtain ⟨t,rfl⟩:=ee
    show (inR p1 (100 :: 101 :: 101 :: t) 3&&!gq.contains t) = !(!inR p1 (100 :: 101 :: 101 :: t) 3||gq.contains t)
    cases inR p1 (100 :: 101 :: 101 :: t) 3<;>cases gq.contains t<;>rfl
   ·have a:ae t1a (100 :: 101 :: v)=none:=by
     cases h:ae t1a (100 :: 101 :: v) with
     | none=>rfl
     | some u =>
      exfalso
      have w:(t1a.all fun e=>e.1==rk "ied"||e.1.head?==some 115)=true:=by decide
      have w:=aab.mp w _ (aa h).1
      obtain ⟨x,hx⟩:=(aa h).2
      rcases Bool.or_eq_true_iff.mp w with z | z
      ·rw [eq_of_beq z] at hx
       have hx:100 :: 101 :: 105 :: x=100 :: 101 :: v:=hx
       exact i ⟨x,(List.cons.inj (List.cons.inj hx).2).2.symm⟩
      ·have z:=eq_of_beq z
       cases hu:u.1 with
       | nil=>rw [hu] at z;injection z
       | cons c v'=>rw [hu] at z hx;rw [(List.cons.inj hx).1] at z;(injection z with hE;cases hE)
    have b:ae t1b (100 :: 101 :: v)=some (rk "ed",2):=by
     cases h:ae t1b (100 :: 101 :: v) with
     | none=>exact absurd (⟨v,rfl⟩:rk "ed" <+: 100 :: 101 :: v) (bl h (rk "ed",2) (by decide))
     | some u =>
      have w:(t1b.all fun e=>(e.1==rk "ed"&&e.2==2)||(e.1==rk "eed"||!(e.1.head?==some 100)))=true:=by decide
      have w:=aab.mp w _ (aa h).1
      obtain ⟨x,hx⟩:=(aa h).2
      rcases Bool.or_eq_true_iff.mp w with z | z
      ·obtain ⟨z1,z2⟩:=aac.mp z
       obtain ⟨s,k⟩:=u
       rw [show s=rk "ed" from eq_of_beq z1,show k=2 from eq_of_beq z2]
      ·exfalso
       rcases Bool.or_eq_true_iff.mp z with z | z
       ·rw [eq_of_beq z] at hx
        have hx:100 :: 101 :: 101 :: x=100 :: 101 :: v:=hx
        exact ee ⟨x,(List.cons.inj (List.cons.inj hx).2).2.symm⟩
       ·have tw:=(em _ (aa h).1).1
        cases hu:u.1 with
        | nil=>rw [hu] at tw;exact absurd tw (by decide)
        | cons c v'=>rw [hu] at z hx;rw [(List.cons.inj hx).1] at z;exact absurd z (by simp)
    have n3:(rk "eed").isPrefixOf (100 :: 101 :: v)=false:=pf fun p=>by
     obtain ⟨x,hx⟩:=p
     have hx:100 :: 101 :: 101 :: x=100 :: 101 :: v:=hx
     exact ee ⟨x,(List.cons.inj (List.cons.inj hx).2).2.symm⟩
    unfold eX cH
    rw [a,b]
    show (false||v.any vow) = !(if (rk "eed").isPrefixOf (100 :: 101 :: v)=true then _ else if true=true then !v.any vow else true)
    rw [n3]
    show (false||v.any vow) = !!v.any vow
    simp
theorem d5 {p1 c:Nat}{q:W}(h1:c≠115) (h2:c≠100):bB p1 (c :: q)=if (rk "ing").isPrefixOf (c :: q)=true then !((c :: q).drop 3).any vow||d0.contains ((c :: q).drop 3)
 else if ((c :: q).head?==some 121||(c :: q).head?==some 89)=true then bC [97,101,105,111,117,121] q
 else if ((rk "e").isPrefixOf (c :: q)&&inR p1 (c :: q) 1)=true then aF q else true:=by
 unfold bB
 rw [show (rk "us").isPrefixOf (c :: q)=false from bx (Ne.symm h1),show (rk "ss").isPrefixOf (c :: q)=false from bx (Ne.symm h1),show (rk "s").isPrefixOf (c :: q)=false from bx (Ne.symm h1),
  show (rk "eed").isPrefixOf (c :: q)=false from bx (Ne.symm h2),show (rk "ed").isPrefixOf (c :: q)=false from bx (Ne.symm h2)]
 rfl
theorem Fq (p1:Nat) (q:W):chg p1 (103 :: q) = !bB p1 (103 :: q):=by
 have e:chg p1 (103 :: q)=cH p1 (103 :: q):=by
  unfold chg
  rw [g7 (by decide),g9 (by decide),jQ (by decide)];simp only [Bool.or_false,Bool.false_or]
 rw [e,d5 (by decide) (by decide)]
 cases hd:(rk "ing").isPrefixOf (103 :: q) with
 | true =>
  obtain ⟨v,hv⟩:=aae.mp hd
  rw [← hv]
  show (!d0.contains v&&v.any vow) = !(!v.any vow||d0.contains v)
  cases v.any vow<;>cases d0.contains v<;>rfl
 | false =>
  have b:ae t1b (103 :: q)=none:=by
   cases h:ae t1b (103 :: q) with
   | none=>rfl
   | some u =>
    exfalso
    have w:(t1b.all fun e=>e.1==rk "ing"||!(e.1.head?==some 103))=true:=by decide
    have w:=aab.mp w _ (aa h).1
    rcases Bool.or_eq_true_iff.mp w with z | z
    ·rw [← eq_of_beq z,aae.mpr (aa h).2] at hd;injection hd
    ·obtain ⟨x,hx⟩:=(aa h).2
     have tw:=(em _ (aa h).1).1
     cases hu:u.1 with
     | nil=>rw [hu] at tw;exact absurd tw (by decide)
     | cons c v'=>rw [hu] at z hx;rw [(List.cons.inj hx).1] at z;exact absurd z (by simp)
  unfold cH
  rw [b,show (rk "e").isPrefixOf (103 :: q)=false from bx (by decide)]
  rfl
theorem oM (p1 y c d:Nat) (q:W) (hy:y=121∨y=89):chg p1 (y :: c :: d :: q) = !bB p1 (y :: c :: d :: q):=by
 have h1:y≠115:=by rcases hy with rfl | rfl<;>decide
 have h2:y≠100:=by rcases hy with rfl | rfl<;>decide
 have h3:(103:Nat)≠y:=by rcases hy with rfl | rfl<;>decide
 have h4:y≠101:=by rcases hy with rfl | rfl<;>decide
 have yy:(y==121||y==89)=true:=by rcases hy with rfl | rfl<;>rfl
 have t:bB p1 (y :: c :: d :: q)=vow c:=by
  rw [d5 h1 h2,show (rk "ing").isPrefixOf (y :: c :: d :: q)=false from bx h3,if_neg (by decide),if_pos (by rcases hy with rfl | rfl<;>rfl)]
  rfl
 have e:chg p1 (y :: c :: d :: q)=(cH p1 (y :: c :: d :: q)||!vow c):=by
  unfold chg
  rw [g7 (by rcases hy with rfl | rfl<;>decide),jQ h4]
  show (false||(_||(((y==121||y==89)&&!vow c)||false)))=_
  rw [yy];simp
 rw [e,t]
 cases hv:vow c with
 | false=>simp
 | true =>
  have b:ae t1b (y :: c :: d :: q)=none:=by
   cases h:ae t1b (y :: c :: d :: q) with
   | none=>rfl
   | some u =>
    exfalso
    have w:(t1b.all fun e=>(e.1.head?==some 100||e.1.head?==some 103)||e.1.take 2==[121,108])=true:=by decide
    have w:=aab.mp w _ (aa h).1
    obtain ⟨x,hx⟩:=(aa h).2
    have tw:=(em _ (aa h).1).1
    match hu:u.1,tw with
    | a :: b :: v',_ =>
     rw [hu] at w hx
     have ha:a=y:=(List.cons.inj hx).1
     have hb:b=c:=(List.cons.inj (List.cons.inj hx).2).1
     rcases Bool.or_eq_true_iff.mp w with z | z
     ·have z:(a==100||a==103)=true:=by simpa using z
      rw [ha] at z
      rcases hy with rfl | rfl<;>exact absurd z (by decide)
     ·have z:=eq_of_beq z
      have:b=108:=by simpa using (List.cons.inj (List.cons.inj z).2).1
      rw [← hb,this] at hv
      exact absurd hv (by decide)
  unfold cH
  rw [b];rfl
theorem tj (p1:Nat) (q:W):chg p1 (101 :: q) = !bB p1 (101 :: q):=by
 have e:chg p1 (101 :: q)=(inR p1 (101 :: q) 1&&!aF q):=by
  unfold chg
  rw [g7 (by decide),g8 (by decide),g9 (by decide)];simp only [Bool.false_or];rfl
 rw [e,d5 (by decide) (by decide),show (rk "ing").isPrefixOf (101 :: q)=false from bx (by decide),if_neg (by decide),if_neg (by simp)]
 show _ = !(if (true&&inR p1 (101 :: q) 1)=true then aF q else true)
 cases inR p1 (101 :: q) 1<;>cases aF q<;>rfl
theorem Fr (p1 c:Nat) (q:W) (h1:c≠115) (h2:c≠100) (h3:c≠103) (h4:c≠121) (h5:c≠89) (h6:c≠101):chg p1 (c :: q) = !bB p1 (c :: q):=by
 have e:chg p1 (c :: q)=false:=by
  unfold chg
  rw [g7 (by simp [h1,h2]),g8 (by simp [h2,h3,h4]),g9 (by simp [h4,h5]),jQ h6];rfl
 rw [e,d5 h1 h2,show (rk "ing").isPrefixOf (c :: q)=false from bx (Ne.symm h3),show (rk "e").isPrefixOf (c :: q)=false from bx (Ne.symm h6),if_neg (by decide),if_neg (by simp [h4,h5])]
 rfl
theorem vL (p1:Nat):∀ r:W,3≤r.length→chg p1 r = !bB p1 r
 | y :: c :: d :: q,_=>by
  by_cases h1:y=115
  ·subst h1;exact Fo p1 _
  by_cases h2:y=100
  ·subst h2;exact Fp p1 _
  by_cases h3:y=103
  ·subst h3;exact Fq p1 _
  by_cases h4:y=121
  ·exact oM p1 y c d q (.inl h4)
  by_cases h5:y=89
  ·exact oM p1 y c d q (.inr h5)
  by_cases h6:y=101
  ·subst h6;exact tj p1 _
  exact Fr p1 y _ h1 h2 h3 h4 h5 h6
noncomputable def gu (p1 p2:Nat) (r:W):Bool:=!(dy gG p1 r)&&(!(dy far p2 r)&&bB p1 r)
theorem HP (a b c d e f g h i:Bool):(a=false∧b=false∧c=false∧d=false∧(e||f)=false∧g=false∧(h||i)=false)↔(!(d||e)&&(!(f||(g||h))&&!(a||(b||(c||i)))))=true:=by
 simp only [Bool.and_eq_true,Bool.not_eq_true',Bool.or_eq_false_iff]
 exact ⟨fun ⟨a,b,c,d,⟨e,f⟩,g,h,i⟩=>⟨⟨d,e⟩,⟨f,g,h⟩,a,b,c,i⟩,fun ⟨⟨d,e⟩,⟨f,g,h⟩,a,b,c,i⟩=>⟨a,b,c,d,⟨e,f⟩,g,h,i⟩⟩
theorem uE {p1 p2:Nat}{r:W}(hp:p1≤p2) (hl:3≤r.length) (h0:aU r=r):aR p1 p2 r=r↔gu p1 p2 r=true:=by
 have all:aR p1 p2 r=r↔eX r=false∧cH p1 r=false∧dz r=false∧ch2 p1 r=false∧ch3 p1 p2 r=false∧ch4 p2 r=false∧ch5 p1 p2 r=false:=by
  constructor
  ·intro e
   rcases gM p1 p2 r with z | ⟨a0,a1,a2,a3,a4,a5,a6⟩
   ·rw [e] at z;exact absurd z (Nat.lt_irrefl _)
   ·have c:ao r=r:=by
     have:aR p1 p2 r=ao r:=by unfold aR;rw [a0,a1,a2,a3,a4,a5,a6]
     rw [← this];exact e
    rw [c] at a3 a4 a5 a6
    exact ⟨(xw r).mp a1,(qR p1 r).mp a2,(qS r).mp c,(Fg p1 r).mp a3,(Fh p1 p2 r).mp a4,(Fi p2 r).mp a5,(AK p1 p2 r).mp a6⟩
  ·rintro ⟨b1,b2,b3,b4,b5,b6,b7⟩
   unfold aR
   rw [h0,(xw r).mpr b1,(qR p1 r).mpr b2,(qS r).mpr b3,(Fg p1 r).mpr b4,(Fh p1 p2 r).mpr b5,(Fi p2 r).mpr b6,(AK p1 p2 r).mpr b7]
 rw [all]
 unfold gu
 rw [← C6,← Fn,y6 r hp,qo]
 have t:=vL p1 r hl
 have t:bB p1 r = !chg p1 r:=by rw [t,Bool.not_not]
 rw [t]
 unfold chg
 exact HP _ _ _ _ _ _ _ _ _
theorem y7 {b:Bool}{c:Nat} : (if (c==121&&b)=true then 89 else c)=c∨(c=121∧(if (c==121&&b)=true then 89 else c)=89):=by
 cases h:(c==121&&b) with
 | false=>exact .inl rfl
 | true=>exact .inr ⟨eq_of_beq (aac.mp h).1,rfl⟩
theorem bm (p:Option Nat) (c:Nat):mk1 p c=c∨(c=121∧mk1 p c=89):=y7
theorem oN:∀ (p:Option Nat) (t:W),(av p t).length=t.length
 | _,[]=>rfl
 | p,c :: t=>congrArg (· + 1) (oN _ t)
theorem be (t:W):(ad t).length=t.length:=oN none t
theorem cr (t:W):(small t).length=t.length:=List.length_map ..
theorem kF:∀ (p:Option Nat) (t:W),small (av p t)=small t
 | _,[]=>rfl
 | p,c :: t=>by
  have ih:=kF (some (mk1 p c)) t
  show (if mk1 p c==89 then 121 else mk1 p c) :: small (av (some (mk1 p c)) t)=(if c==89 then 121 else c) :: small t
  rw [ih]
  congr 1
  rcases bm p c with e | ⟨rfl,e⟩
  ·rw [e]
  ·rw [e];rfl
theorem fL (t:W):small (ad t)=small t:=kF none t
theorem mS {t:W} : (small t).contains 89=false:=by
 cases h:(small t).contains 89 with
 | false=>rfl
 | true =>
  obtain ⟨c,_,hc⟩:=List.mem_map.mp (aak.mp h)
  split at hc
  ·(injection hc with hE;cases hE)
  ·rename_i q;rw [hc] at q;exact absurd q (by decide)
theorem fY:∀ {t:W},t.contains 89=false→small t=t
 | [],_=>rfl
 | c :: t,h=>by
  have h':(89==c||t.contains 89)=false:=by simpa [List.contains_cons] using h
  obtain ⟨h1,h2⟩:=Bool.or_eq_false_iff.mp h'
  have ih:=fY h2
  unfold small at ih ⊢
  rw [List.map_cons,ih]
  congr 1
  rw [if_neg]
  intro q
  rw [beq_iff_eq] at q;subst q;injection h1
theorem oO:∀ (p:Option Nat) (t:W) (i:Nat) (c:Nat),c≠89→c≠121→((av p t)[i]? = some c↔t[i]? = some c)
 | _,[],_,_,_,_=>by simp [av]
 | p,a :: t,0,c,h1,h2=>by
  show some (mk1 p a)=some c↔some a=some c
  rcases bm p a with e | ⟨rfl,e⟩
  ·rw [e]
  ·rw [e]
   exact ⟨fun e=>absurd (aaa e).symm h1,fun e=>absurd (aaa e).symm h2⟩
 | p,a :: t,i+1,c,h1,h2=>oO _ t i c h1 h2
noncomputable def gb (w:W):Bool:=(rk "'").isPrefixOf w.reverse||(rk "'s").isPrefixOf w.reverse
noncomputable def eO (w:W):Bool :=
 if (aE.lookup w).isSome=true then false
 else if (kept.contains w||decide (w.length<3))=true then true
 else if (w.head?==some 39||gb w)=true then false
 else if (w.contains 89&&!(ad w==w))=true then false
 else gu (first (ad w)) (az (ad w)) (ad w).reverse
theorem pS {k r:W} : k.isPrefixOf r=true↔∀ i,i<k.length→r[i]? = k[i]?:=by
 rw [aae]
 constructor
 ·rintro ⟨t,rfl⟩ i hi
  exact List.getElem?_append_left hi
 ·intro h
  refine ⟨r.drop k.length,?_⟩
  have:r.take k.length=k:=by
   apply List.ext_getElem?
   intro i
   rw [List.getElem?_take]
   split
   ·rename_i hi;exact h i hi
   ·rename_i hi;rw [List.getElem?_eq_none (Nat.le_of_not_lt hi)]
  rw [← this]
  rw [List.length_take]
  have hl:min k.length r.length=k.length:=by
   have:=congrArg List.length this
   rw [List.length_take] at this;exact this
  rw [hl,List.take_append_drop]
theorem vM (t:W) (i:Nat) (h:i<t.length):t.reverse[i]? = t[t.length - 1 - i]?:=List.getElem?_reverse h
theorem vN {k t:W}(hk:∀ c∈k,c≠89∧c≠121):k.isPrefixOf (ad t).reverse=k.isPrefixOf t.reverse:=by
 rw [Bool.eq_iff_iff,pS,pS]
 have key:∀ i,i<k.length→((ad t).reverse[i]? = k[i]?↔t.reverse[i]? = k[i]?):=fun i hi=>by
  rw [List.getElem?_eq_getElem hi]
  obtain ⟨z1,z2⟩:=hk k[i] (List.getElem_mem hi)
  by_cases hl:i<t.length
  ·rw [vM t i hl,vM (ad t) i (by rw [be];exact hl),be]
   exact oO none t _ _ z1 z2
  ·rw [List.getElem?_eq_none (by rw [aad,be];omega),List.getElem?_eq_none (by rw [aad];omega)]
 exact ⟨fun h i hi=>(key i hi).mp (h i hi),fun h i hi=>(key i hi).mpr (h i hi)⟩
theorem oP (r:W):aU r=r↔((rk "'").isPrefixOf r||(rk "'s").isPrefixOf r)=false:=by
 unfold aU
 cases h:ae sR r with
 | none =>
  have a:=bl h (rk "'",()) (by decide)
  have b:=bl h (rk "'s",()) (by decide)
  rw [pf a,pf b];exact dF
 | some e =>
  have z:=sS e (aa h).1
  have w:(sR.all fun e=>(rk "'").isPrefixOf e.1||(rk "'s").isPrefixOf e.1)=true:=by decide
  have w:=aab.mp w _ (aa h).1
  have:((rk "'").isPrefixOf r||(rk "'s").isPrefixOf r)=true:=by
   rcases Bool.or_eq_true_iff.mp w with q | q
   ·rw [aae.mpr ((aae.mp q).trans (aa h).2)];rfl
   ·rw [aae.mpr ((aae.mp q).trans (aa h).2),Bool.or_true]
  rw [this]
  exact oL (fa z (dD (aa h).2 z))
theorem mT (t:W):first t≤t.length:=by
 unfold first
 cases h:a8.find? fun f=>f.isPrefixOf t with
 | none=>exact Nat.sub_le _ _
 | some f=>exact (aae.mp (List.find?_some (p:=fun f:W=>f.isPrefixOf t) h)).length_le
theorem kG (t:W):first t≤az t:=Nat.le_add_right _ _
theorem fc {w:W}(h1:aE.lookup w=none) (h2:(kept.contains w||decide (w.length<3))=false):ag w=(let t:=aG w;let m:=ad t;let s:=(aR (first m) (az m) m.reverse).reverse;if m=t then s else small s):=by
 unfold ag
 rw [h1]
 simp only [h2]
 rfl
theorem mU (p1 p2:Nat) (r:W):(aR p1 p2 r).length≤r.length:=by
 rcases gM p1 p2 r with h | ⟨a0,a1,a2,a3,a4,a5,a6⟩
 ·exact Nat.le_of_lt h
 ·unfold aR;rw [a0,a1,a2,a3,a4,a5,a6,iF];exact Nat.le_refl _
theorem y8:(aE.all fun e=>!(e.2==e.1))=true:=by decide
theorem bX {l:List (W×W)}{w t:W} : l.lookup w=some t→(w,t)∈l:=by
 induction l with
 | nil=>intro h;injection h
 | cons e l ih =>
  intro h
  rw [List.lookup_cons] at h
  cases q:w==e.1 with
  | true=>rw [q] at h;obtain rfl:=aaa h;rw [eq_of_beq q];exact aam
  | false=>rw [q] at h;exact aag _ (ih h)
theorem unq {w:W}(h:(w.head?==some 39)=false):aG w=w:=by
 unfold aG
 split
 ·injection h
 ·rfl
theorem gQ {p1 p2:Nat}{r:W}(h:¬ (aR p1 p2 r).length<r.length):aR p1 p2 r=ao r∧aU r=r∧aS p1 (ao r)=ao r∧bc p1 p2 (ao r)=ao r∧bp p2 (ao r)=ao r∧bT p1 p2 (ao r)=ao r:=by
 rcases gM p1 p2 r with z | ⟨a0,a1,a2,a3,a4,a5,a6⟩
 ·exact absurd z h
 ·exact ⟨by unfold aR;rw [a0,a1,a2,a3,a4,a5,a6],a0,a3,a4,a5,a6⟩
theorem tm {r:W}(h:(ao r).map (fun c=>if c==89 then 121 else c)=r.map fun c=>if c==89 then 121 else c):ao r=r:=by
 rw [qS]
 match r with
 | []=>rfl
 | [_]=>rfl
 | [_,_]=>rfl
 | y :: c :: d :: q =>
  cases z:dz (y :: c :: d :: q) with
  | false=>rfl
  | true =>
   exfalso
   have z':((y==121||y==89)&&!vow c)=true:=z
   have s:ao (y :: c :: d :: q)=105 :: c :: d :: q:=by
    show (if ((y==121||y==89)&&!vow c)=true then 105 :: c :: d :: q else _)=_
    rw [if_pos z']
   rw [s] at h
   have h:=(List.cons.inj h).1
   obtain ⟨z1,_⟩:=aac.mp z'
   rcases Bool.or_eq_true_iff.mp z1 with q | q
   ·cases eq_of_beq q;exact absurd h (by decide)
   ·cases eq_of_beq q;exact absurd h (by decide)
theorem iI (w:W):ag w=w↔eO w=true:=by
 unfold eO
 cases h1:aE.lookup w with
 | some t =>
  rw [if_pos (show (some t).isSome=true from rfl)]
  have z:=aab.mp y8 _ (bX h1)
  have:ag w=t:=by unfold ag;rw [h1]
  rw [this]
  constructor
  ·intro e;rw [e] at z;simp at z
  ·intro e;injection e
 | none =>
  rw [if_neg (show ¬ ((none:Option W).isSome=true) from aaj)]
  cases h2:(kept.contains w||decide (w.length<3)) with
  | true =>
   rw [if_pos rfl]
   have:ag w=w:=by unfold ag;rw [h1];simp only [h2,if_true]
   exact ⟨fun zz=>rfl,fun zz=>this⟩
  | false =>
   rw [if_neg aaj,fc h1 h2]
   have hl:3≤w.length:=by
    have:=(Bool.or_eq_false_iff.mp h2).2
    exact Nat.le_of_not_lt (of_decide_eq_false this)
   dsimp only
   cases h3:(w.head?==some 39) with
   | true =>
    rw [Bool.true_or,if_pos rfl]
    refine ⟨fun e=>?_,fun e=>Bool.noConfusion e⟩
    exfalso
    have ul:(aG w).length<w.length:=by
     match w,h3 with
     | c :: t,h3 =>
      have:c=39:=aaa (eq_of_beq h3)
      subst this
      exact Nat.lt_succ_self _
    have len:=congrArg List.length e
    have sl:=mU (first (ad (aG w))) (az (ad (aG w))) (ad (aG w)).reverse
    rw [aad,be] at sl
    split at len
    ·rw [aad] at len;omega
    ·rw [cr,aad] at len;omega
   | false =>
    rw [Bool.false_or,unq h3]
    have q0:aU (ad w).reverse=(ad w).reverse↔gb w=false:=by
     rw [oP,vN (by decide),vN (by decide)];exact Iff.rfl
    cases h4:gb w with
    | true =>
     rw [if_pos rfl]
     refine ⟨fun e=>?_,fun e=>nomatch e⟩
     exfalso
     have nz:¬ aU (ad w).reverse=(ad w).reverse:=fun z=>by rw [q0.mp z] at h4;injection h4
     have sl:(aR (first (ad w)) (az (ad w)) (ad w).reverse).length<w.length:=by
      have:=gM (first (ad w)) (az (ad w)) (ad w).reverse
      rw [aad,be] at this
      exact this.elim id fun z=>absurd z.1 nz
     have len:=congrArg List.length e
     split at len
     ·rw [aad] at len;omega
     ·rw [cr,aad] at len;omega
    | false =>
     rw [if_neg aaj]
     have h0:=q0.mpr h4
     have rs:=uE (kG (ad w)) (r:=(ad w).reverse) (by rw [aad,be];exact hl) h0
     by_cases hm:ad w=w
     ·have c:(w.contains 89&&!(ad w==w))=false:=by rw [beq_iff_eq.mpr hm];simp
      rw [if_pos hm,c,if_neg aaj,← rs]
      constructor
      ·intro e
       have:=congrArg List.reverse e
       rw [aaq] at this
       rw [this,hm]
      ·intro e;rw [e,aaq,hm]
     ·rw [if_neg hm]
      cases h5:w.contains 89 with
      | true =>
       have c:(true&&!(ad w==w))=true:=by rw [beq_eq_false_iff_ne.mpr hm];rfl
       rw [c,if_pos rfl]
       refine ⟨fun e=>?_,fun e=>nomatch e⟩
       have:(small (aR (first (ad w)) (az (ad w)) (ad w).reverse).reverse).contains 89=false:=mS
       rw [e,h5] at this;injection this
      | false =>
       rw [Bool.false_and,if_neg aaj,← rs]
       have ws:w=small (ad w):=by rw [fL,fY h5]
       constructor
       ·intro e
        have e2:small (aR (first (ad w)) (az (ad w)) (ad w).reverse).reverse=small (ad w):=by rw [e];exact ws
        have nl:¬ (aR (first (ad w)) (az (ad w)) (ad w).reverse).length<(ad w).reverse.length:=fun z=>by
         have:=congrArg List.length e2
         rw [cr,cr,aad] at this
         rw [aad] at z;lia
        have sm:=(gQ nl).1
        rw [sm] at e2 ⊢
        apply tm
        have e3:=congrArg List.reverse e2
        unfold small at e3
        rw [← List.map_reverse,aaq,← List.map_reverse] at e3
        exact e3
       ·intro e
        rw [e,aaq];exact ws.symm
noncomputable def jR (w:W):W :=
 let r:=(ad w).reverse
 let u:=if ad w=w then r else small r
 if dz r=true then 105 :: u.tail else u
noncomputable def eA (w:W):W:=(jR w).reverse
theorem lQ {w:W}(h1:aE.lookup w=none) (h2:(kept.contains w||decide (w.length<3))=false) (h3:(w.head?==some 39)=true):(ag w).length<w.length:=by
 rw [fc h1 h2]
 have ul:(aG w).length<w.length:=by
  match w,h3 with
  | c :: t,h3 =>
   have:c=39:=aaa (eq_of_beq h3)
   subst this
   exact Nat.lt_succ_self _
 have sl:=mU (first (ad (aG w))) (az (ad (aG w))) (ad (aG w)).reverse
 rw [aad,be] at sl
 dsimp only
 split
 ·rw [aad];omega
 ·rw [cr,aad];omega
theorem fg {r:W} : ao r=if dz r=true then 105 :: r.tail else r:=by
 match r with
 | []=>rfl
 | [_]=>rfl
 | [_,_]=>rfl
 | y :: c :: d :: q=>rfl
theorem iJ (t:W):small t.reverse=(small t).reverse:=List.map_reverse ..
theorem xy (t:W):small t.tail=(small t).tail:=by cases t<;>rfl
theorem iK {w:W}(h1:aE.lookup w=none) (h2:(kept.contains w||decide (w.length<3))=false) (h:w.length≤(ag w).length) :
 (w.head?==some 39)=false∧ag w=eA w∧aR (first (ad w)) (az (ad w)) (ad w).reverse=ao (ad w).reverse∧¬ (aR (first (ad w)) (az (ad w)) (ad w).reverse).length<(ad w).reverse.length:=by
 have h3:(w.head?==some 39)=false:=by
  cases z:(w.head?==some 39) with
  | false=>rfl
  | true=>exact absurd (lQ h1 h2 z) (Nat.not_lt.mpr h)
 have e:=fc h1 h2
 rw [unq h3] at e
 dsimp only at e
 have nl:¬ (aR (first (ad w)) (az (ad w)) (ad w).reverse).length<(ad w).reverse.length:=fun z=>by
  rw [e] at h
  rw [aad,be] at z
  split at h
  ·rw [aad] at h;lia
  ·rw [cr,aad] at h;omega
 have sm:=(gQ nl).1
 refine ⟨h3,?_,sm,nl⟩
 rw [e,sm,fg]
 unfold eA jR
 dsimp only
 by_cases hm:ad w=w
 ·rw [if_pos hm,if_pos hm]
 ·rw [if_neg hm,if_neg hm,iJ]
  congr 1
  split
  ·show 105 :: small (ad w).reverse.tail=_
   rw [xy]
  ·rfl
theorem uF:(aE.all fun e=>decide (e.2.length<e.1.length)||e.2==eA e.1)=true:=by decide +kernel
theorem vO {w:W}(hn:ag w≠w) (h:w.length≤(ag w).length):ag w=eA w:=by
 cases h1:aE.lookup w with
 | some t =>
  have e:ag w=t:=by unfold ag;rw [h1]
  have z:=aab.mp uF _ (bX h1)
  rcases Bool.or_eq_true_iff.mp z with q | q
  ·have:=of_decide_eq_true q
   rw [e] at h;exact absurd this (Nat.not_lt.mpr h)
  ·rw [e];exact eq_of_beq q
 | none =>
  cases h2:(kept.contains w||decide (w.length<3)) with
  | true =>
   exfalso
   apply hn
   unfold ag;rw [h1];simp only [h2,if_true]
  | false=>exact (iK h1 h2 h).2.1
theorem kH {p:Nat→Bool} : ∀ {l:W}{m:W},(l.any fun c=>!p c)=true→(l++m).dropWhile p=l.dropWhile p++m
 | c :: l,m,h=>by
  rw [List.cons_append,List.dropWhile_cons,List.dropWhile_cons]
  cases hc:p c with
  | true =>
   rw [if_pos rfl,if_pos rfl]
   refine kH ?_
   rw [List.any_cons,hc] at h
   exact h
  | false=>rw [if_neg aaj,if_neg aaj];rfl
theorem za {p:Nat→Bool} : ∀ {l:W}{m:W},(l.any fun c=>!p c)=false→(l++m).dropWhile p=m.dropWhile p
 | [],m,h=>rfl
 | c :: l,m,h=>by
  rw [List.any_cons] at h
  obtain ⟨h1,h2⟩:=Bool.or_eq_false_iff.mp h
  rw [List.cons_append,List.dropWhile_cons,if_pos (by simpa using h1)]
  exact za h2
theorem zb {p:Nat→Bool} : ∀ {l:W},l.dropWhile p=[]→∀ x∈l,p x=true
 | c :: l,h,x,hx=>by
  rw [List.dropWhile_cons] at h
  cases hc:p c with
  | true =>
   rw [hc,if_pos rfl] at h
   rcases List.mem_cons.mp hx with rfl | hx
   ·exact hc
   ·exact zb h x hx
  | false=>rw [hc,if_neg aaj] at h;injection h
theorem lR (l:W) (c a b:Nat) (hc:vow c=false):aZ (l++[c,a])=aZ (l++[c,b]):=by
 have key:∀ a,(((l++[c,a]).dropWhile fun c=>!vow c).dropWhile vow).tail.length=if (l.any vow)=true then (((l++[c]).dropWhile fun c=>!vow c).dropWhile vow).tail.length+1 else 0:=fun a=>by
  cases hv:l.any vow with
  | true =>
   rw [if_pos rfl]
   have hv':(l.any fun c=>!(!vow c))=true:=by simpa using hv
   have e1:(l++[c,a]).dropWhile (fun c=>!vow c)=((l++[c]).dropWhile fun c=>!vow c)++[a]:=by
    rw [show l++[c,a]=(l++[c])++[a] by simp]
    refine kH ?_
    rw [List.any_append,hv'];rfl
   rw [e1]
   have e2:(((l++[c]).dropWhile fun c=>!vow c)++[a]).dropWhile vow=(((l++[c]).dropWhile fun c=>!vow c).dropWhile vow)++[a]:=by
    refine kH ?_
    rw [kH hv',List.any_append]
    simp [hc]
   rw [e2]
   have ne:((l++[c]).dropWhile fun c=>!vow c).dropWhile vow≠[]:=by
    rw [kH hv']
    intro z
    have:=zb z c (aao _ (List.mem_singleton_self _))
    rw [hc] at this;injection this
   cases q:((l++[c]).dropWhile fun c=>!vow c).dropWhile vow with
   | nil=>exact absurd q ne
   | cons x y=>simp
  | false =>
   rw [if_neg aaj]
   have hv':(l.any fun c=>!(!vow c))=false:=by simpa using hv
   rw [za hv',List.dropWhile_cons,if_pos (by rw [hc];rfl)]
   rw [List.dropWhile_cons]
   split
   ·rfl
   ·rw [List.dropWhile_cons]
    rename_i z
    rw [if_pos (by simpa using z)]
    rfl
 unfold aZ
 rw [key a,key b]
 simp
theorem uG:(a8.all fun f=>match f.getLast? with | some c=>!([121,89,105].contains c) | none=>false)=true:=by decide
theorem qq {l:W}{a b:Nat}{f:W}(hf:f∈a8) (ha:[121,89,105].contains a=true) (h:f.isPrefixOf (l++[a])=true):f.isPrefixOf (l++[b])=true:=by
 obtain ⟨t,ht⟩:=aae.mp h
 rcases List.eq_nil_or_concat t with rfl | ⟨t',x,rfl⟩
 ·exfalso
  rw [List.append_nil] at ht
  have z:=aab.mp uG f hf
  rw [ht,List.getLast?_concat] at z
  have z:(!([121,89,105].contains a))=true:=z
  rw [ha] at z;injection z
 ·rw [List.concat_eq_append,← aap] at ht
  have:=List.append_inj_left' ht rfl
  rw [← this]
  exact aae.mpr ⟨t'++[b],by simp⟩
theorem oQ (l:W) (c a b:Nat) (hc:vow c=false) (ha:[121,89,105].contains a=true) (hb:[121,89,105].contains b=true):first (l++[c,a])=first (l++[c,b]):=by
 unfold first
 have e:∀ f∈a8,f.isPrefixOf (l++[c,a])=f.isPrefixOf (l++[c,b]):=fun f hf=>by
  rw [show l++[c,a]=(l++[c])++[a] by simp,show l++[c,b]=(l++[c])++[b] by simp,Bool.eq_iff_iff]
  exact ⟨qq hf ha,qq hf hb⟩
 have fe:(a8.find? fun f=>f.isPrefixOf (l++[c,a]))=a8.find? fun f=>f.isPrefixOf (l++[c,b]):=by
  have gen:∀ fs:List W,(∀ f∈fs,f.isPrefixOf (l++[c,a])=f.isPrefixOf (l++[c,b]))→(fs.find? fun f=>f.isPrefixOf (l++[c,a]))=fs.find? fun f=>f.isPrefixOf (l++[c,b]):=by
   intro fs
   induction fs with
   | nil=>intro _;rfl
   | cons g gs ih =>
    intro h
    rw [List.find?_cons,List.find?_cons,h g aam,ih fun f hf=>h f (aag _ hf)]
  exact gen a8 e
 rw [fe,lR l c a b hc]
theorem gR (a:Nat):aZ [a]=1:=by
 unfold aZ
 cases h:vow a<;>simp [List.dropWhile_cons,h]
theorem uH (l:W) (c a b:Nat) (hc:vow c=false) (ha:[121,89,105].contains a=true) (hb:[121,89,105].contains b=true):az (l++[c,a])=az (l++[c,b]):=by
 unfold az
 rw [oQ l c a b hc ha hb]
 congr 1
 generalize first (l++[c,b])=k
 rcases Nat.lt_or_ge l.length k with h | h
 ·
  have d:∀ a,(l++[c,a]).drop k=[a].drop (k - (l.length+1)):=fun a=>by
   rw [show l++[c,a]=(l++[c])++[a] by simp,List.drop_append,List.drop_eq_nil_of_le (by simp;exact (by assumption))]
   simp
  rw [d a,d b]
  cases k - (l.length+1) with
  | zero=>exact (gR a).trans (gR b).symm
  | succ n=>simp
 ·have d:∀ a,(l++[c,a]).drop k=l.drop k++[c,a]:=fun a=>List.drop_append_of_le_length h
  rw [d a,d b]
  exact lR _ c a b hc
theorem oR:∀ (p:Option Nat) (Z:W),∃ d,∀ a,av p (Z++[a])=av p Z++[mk1 d a]
 | p,[]=>⟨p,fun a=>rfl⟩
 | p,c :: Z=>by
  obtain ⟨d,h⟩:=oR (some (mk1 p c)) Z
  exact ⟨d,fun a=>by show mk1 p c :: av _ (Z++[a])=mk1 p c :: av _ Z++[mk1 d a];rw [h];rfl⟩
theorem uI:(aE.all fun e=>!(e.1.getLast?==some 105))=true:=by decide
theorem zd:(kept.all fun e=>!(e.getLast?==some 105))=true:=by decide
theorem ze (Z:W):aE.lookup (Z++[105])=none:=by
 cases h:aE.lookup (Z++[105]) with
 | none=>rfl
 | some t =>
  have z:=aab.mp uI _ (bX h)
  have z:(!((Z++[105]).getLast?==some 105))=true:=z
  rw [List.getLast?_concat] at z;injection z
theorem C9 (Z:W):kept.contains (Z++[105])=false:=by
 cases h:kept.contains (Z++[105]) with
 | false=>rfl
 | true =>
  have z:=aab.mp zd _ (aak.mp h)
  rw [List.getLast?_concat] at z;injection z
theorem Hd (d:Option Nat):mk1 d 105=105:=by
 rcases bm d 105 with h | ⟨h,_⟩
 ·exact h
 ·cases h
theorem kI {l m:W}{c:Nat}(h:(l++m).contains c=false):l.contains c=false:=by
 cases z:l.contains c with
 | false=>rfl
 | true =>
  have:=aak.mpr (List.mem_append_left m (aak.mp z))
  rw [h] at this;injection this
theorem jS {w:W}(h1:aE.lookup w=none) (h2:(kept.contains w||decide (w.length<3))=false) (hn:ag w≠w) (h:w.length≤(ag w).length) (hy:ad w=w∨w.contains 89=false):ag (ag w)=ag w:=by
 obtain ⟨h3,e,sm,nl⟩:=iK h1 h2 h
 obtain ⟨_,a0,a3,a4,a5,a6⟩:=gQ nl
 have hl:3≤w.length:=Nat.le_of_not_lt (of_decide_eq_false (Bool.or_eq_false_iff.mp h2).2)
 have hc:dz (ad w).reverse=true:=by
  cases z:dz (ad w).reverse with
  | true=>rfl
  | false =>
   exfalso;apply hn
   rw [e]
   unfold eA jR
   dsimp only
   rw [z,if_neg aaj]
   by_cases hm:ad w=w
   ·rw [if_pos hm,aaq];exact hm
   ·rw [if_neg hm,← iJ,aaq,fL,fY (hy.resolve_left hm)]
 rcases List.eq_nil_or_concat w with rfl | ⟨Z,y',hw⟩
 ·exact absurd hl (by decide)
 rw [List.concat_eq_append] at hw
 obtain ⟨dd,hd⟩:=oR none Z
 have m0:ad w=ad Z++[mk1 dd y']:=by rw [hw];exact hd y'
 have r0:(ad w).reverse=mk1 dd y' :: (ad Z).reverse:=by rw [m0,List.reverse_append];rfl
 have zl:2≤(ad Z).reverse.length:=by
  rw [aad,be]
  rw [hw,List.length_append] at hl
  simp only [List.length_singleton] at hl;exact Nat.le_of_succ_le_succ (by assumption)
 obtain ⟨c,d,q,hq⟩:∃ c d q,(ad Z).reverse=c :: d :: q:=by
  match (ad Z).reverse,zl with
  | c :: d :: q,_=>exact ⟨c,d,q,rfl⟩
 rw [r0,hq] at hc
 have hc:((mk1 dd y'==121||mk1 dd y'==89)&&!vow c)=true:=hc
 obtain ⟨c1,c2⟩:=aac.mp hc
 have vc:vow c=false:=by simpa using c2
 have cy:[121,89,105].contains (mk1 dd y')=true:=by
  rcases Bool.or_eq_true_iff.mp c1 with z | z<;>(rw [eq_of_beq z];rfl)
 have hZ:ad Z=q.reverse++[d]++[c]:=by
  have:=congrArg List.reverse hq
  rw [aaq] at this
  rw [this];simp
 have ZZ:ad w=w→ad Z=Z:=fun z=>by
  rw [m0] at z
  exact List.append_inj_left' (z.trans hw) rfl
 have s0:ag w=Z++[105]:=by
  rw [e]
  unfold eA jR
  dsimp only
  have hc':dz (ad w).reverse=true:=by rw [r0,hq];exact hc
  rw [if_pos hc']
  by_cases hm:ad w=w
  ·rw [if_pos hm,r0]
   show (105 :: (ad Z).reverse).reverse=_
   rw [List.reverse_cons,aaq,ZZ hm]
  ·rw [if_neg hm,r0]
   show (105 :: small (ad Z).reverse).reverse=_
   have:Z.contains 89=false:=by
    have:=hy.resolve_left hm
    rw [hw] at this
    exact kI this
   rw [List.reverse_cons,← iJ,aaq,fL,fY this]
 have ms:ad (Z++[105])=ad Z++[105]:=by
  have:=hd 105
  rw [Hd] at this;exact this
 have msr:(ad (Z++[105])).reverse=105 :: c :: d :: q:=by rw [ms,List.reverse_append,hq];rfl
 have sc:ao (ad w).reverse=105 :: c :: d :: q:=by
  rw [fg,if_pos (by rw [r0,hq];exact hc),r0,hq];rfl
 have f1:first (ad (Z++[105]))=first (ad w):=by
  rw [ms,m0,hZ,aap,aap,← aap,← aap]
  rw [show q.reverse++[d]++[c]++[105]=(q.reverse++[d])++[c,105] by simp,show q.reverse++[d]++[c]++[mk1 dd y']=(q.reverse++[d])++[c,mk1 dd y'] by simp]
  exact oQ _ c _ _ vc (by decide) cy
 have f2:az (ad (Z++[105]))=az (ad w):=by
  rw [ms,m0,hZ]
  rw [show q.reverse++[d]++[c]++[105]=(q.reverse++[d])++[c,105] by simp,show q.reverse++[d]++[c]++[mk1 dd y']=(q.reverse++[d])++[c,mk1 dd y'] by simp]
  exact uH _ c _ _ vc (by decide) cy
 have fx:aR (first (ad (Z++[105]))) (az (ad (Z++[105]))) (ad (Z++[105])).reverse=(ad (Z++[105])).reverse:=by
  rw [f1,f2,msr]
  rw [sc] at a3 a4 a5 a6
  unfold aR
  rw [(oP _).mpr (by rw [show (rk "'").isPrefixOf (105 :: c :: d :: q)=false from bx (by decide),show (rk "'s").isPrefixOf (105 :: c :: d :: q)=false from bx (by decide)];rfl),
   (xw _).mpr (g7 (by decide)),(qR _ _).mpr (g8 (by decide)),(qS _).mpr (g9 (by decide)),a3,a4,a5,a6]
 have k2:(kept.contains (Z++[105])||decide ((Z++[105]).length<3))=false:=by
  rw [C9,Bool.false_or]
  refine decide_eq_false ?_
  rw [hw] at hl
  simp only [List.length_append,List.length_singleton] at hl ⊢
  lia
 have hh:((Z++[105]).head?==some 39)=false:=by
  rw [hw] at h3
  cases Z with
  | nil=>rfl
  | cons a Z=>exact h3
 rw [s0,fc (ze Z) k2,unq hh]
 dsimp only
 rw [fx,aaq]
 by_cases hm:ad (Z++[105])=Z++[105]
 ·rw [if_pos hm];exact hm
 ·rw [if_neg hm,fL]
  refine fY ?_
  have nm:¬ ad w=w:=fun z=>hm (by rw [ms,ZZ z])
  have:=hy.resolve_left nm
  rw [hw] at this
  have z:=kI this
  cases q:(Z++[105]).contains 89 with
  | false=>rfl
  | true =>
   rcases List.mem_append.mp (aak.mp q) with y | y
   ·rw [aak.mpr y] at z;injection z
   ·exact absurd (aai.mp y) (by decide)
theorem bQ {c k:Nat}{r:W}(h:c∈r.drop k):c∈r:=List.mem_of_mem_drop h
theorem AO:(t2.all fun e=>match e.2 with | .to t=>!t.contains 89 | _=>true)=true:=by decide
theorem AP:(t3.all fun e=>!e.2.2.contains 89)=true:=by decide
theorem xz {p1:Nat}{r:W}(h:89∈gE p1 r):89∈r:=by
 unfold gE at h
 split at h
 ·rcases List.mem_cons.mp h with z | z
  ·cases z
  ·exact z
 ·split at h
  ·split at h
   ·split at h
    ·exact h
    ·exact bQ h
   ·exact bQ h
  ·split at h
   ·rcases List.mem_cons.mp h with z | z
    ·cases z
    ·exact z
   ·exact h
theorem kJ {p1 k:Nat}{r:W}(h:89∈bL p1 k r):89∈r:=by
 unfold bL at h
 split at h
 ·exact bQ (xz h)
 ·exact h
theorem AQ {r:W}(h:89∈aU r):89∈r:=by
 unfold aU at h
 split at h
 ·exact bQ h
 ·exact h
theorem Da {r:W}(h:89∈a9 r):89∈r:=by
 unfold a9 at h
 split at h
 ·exact bQ h
 ·split at h<;>exact bQ h
 ·split at h
  ·exact bQ h
  ·exact h
 ·exact h
set_option tactic.hygienic true in
theorem Db {p1:Nat}{r:W}(h:89∈aY p1 r):89∈r:=by
 unfold aY at h
 split at h
 ·split at h
  ·simp only [List.mem_cons] at h
   rcases h with z | z | z
   ·cases z
   ·cases z
   ·exact bQ z
  ·exact h
 ·exact kJ h
 ·split at h
  ·exact h
  ·split at h
   ·rename_i c q
    split at h
    ·exact kJ h
    ·simp only [List.mem_cons,List.not_mem_nil,or_false] at h
     rcases h with z | z | z
     ·cases z
     ·cases z
     ·have:89∈r.drop 3:=by rw [q,z];exact aag _ (List.mem_singleton_self _)
      exact bQ this
   ·exact kJ h
 ·exact h
theorem Dc {r:W}(h:89∈ao r):89∈r:=by
 rw [fg] at h
 split at h
 ·rcases List.mem_cons.mp h with z | z
  ·cases z
  ·exact List.mem_of_mem_tail z
 ·exact h
set_option tactic.hygienic true in
theorem Fs {p1:Nat}{r:W}(h:89∈aS p1 r):89∈r:=by
 unfold aS at h
 split at h
 ·rename_i s a hb
  split at h
  ·cases a with
   | to t =>
    rcases List.mem_append.mp h with z | z
    ·have w:=aab.mp AO _ (aa hb).1
     have w:(!t.contains 89)=true:=w
     rw [aak.mpr (List.mem_reverse.mp z)] at w;injection w
    ·exact bQ z
   | ogi =>
    have h:89∈(if ((r.drop 3).head?==some 108)=true then r.drop 1 else r):=h
    split at h
    ·exact bQ h
    ·exact h
   | li =>
    have h:89∈(if bC (ks "cdeghkmnrt") (r.drop 2)=true then r.drop 2 else r):=h
    split at h
    ·exact bQ h
    ·exact h
  ·exact h
 ·exact h
set_option tactic.hygienic true in
theorem Ft {p1 p2:Nat}{r:W}(h:89∈bc p1 p2 r):89∈r:=by
 unfold bc at h
 split at h
 ·rename_i s two t hb
  split at h
  ·rcases List.mem_append.mp h with z | z
   ·have w:=aab.mp AP _ (aa hb).1
    have w:(!t.contains 89)=true:=w
    rw [aak.mpr (List.mem_reverse.mp z)] at w;injection w
   ·exact bQ z
  ·exact h
 ·exact h
theorem Fu {p2:Nat}{r:W}(h:89∈bp p2 r):89∈r:=by
 unfold bp at h
 split at h
 ·split at h
  ·exact bQ h
  ·exact h
 ·exact h
theorem Fv {p1 p2:Nat}{r:W}(h:89∈bT p1 p2 r):89∈r:=by
 unfold bT at h
 split at h
 ·split at h
  ·exact aag _ h
  ·exact h
 ·split at h
  ·exact aag _ h
  ·exact h
 ·exact h
theorem lS {p1 p2:Nat}{r:W}(h:89∈aR p1 p2 r):89∈r:=AQ (Da (Db (Dc (Fs (Ft (Fu (Fv h)))))))
theorem tn:(aE.all fun e=>!e.2.contains 89)=true:=by decide
set_option tactic.hygienic true in
theorem xA {w:W}(h:w.contains 89=false):(ag w).contains 89=false:=by
 unfold ag
 cases h1:aE.lookup w with
 | some t =>
  have z:=aab.mp tn _ (bX h1)
  simpa using z
 | none =>
  dsimp only
  split
  ·exact h
  ·split
   ·rename_i hm
    cases q:(aR (first (ad (aG w))) (az (ad (aG w))) (ad (aG w)).reverse).reverse.contains 89 with
    | false=>rfl
    | true =>
     have z:=lS (List.mem_reverse.mp (aak.mp q))
     rw [hm] at z
     have z:=List.mem_reverse.mp z
     have:89∈w:=by
      unfold aG at z
      split at z
      ·exact aag _ z
      ·exact z
     rw [aak.mpr this] at h;injection h
   ·exact mS
noncomputable def loop:Nat→W→Bool
 | 0,_=>false
 | n+1,t=>if ((ag t==t) != eO t)=true then false else if (ag t==t)=true then true
  else if (decide (t.length≤(ag t).length)&&!(ag t==eA t))=true then false else loop n (ag t)
theorem iL (n:Nat) (t:W):loop (n+1) t=if (ag t==t)=true then true else loop n (ag t):=by
 show (if ((ag t==t) != eO t)=true then false else if (ag t==t)=true then true
  else if (decide (t.length≤(ag t).length)&&!(ag t==eA t))=true then false else loop n (ag t))=_
 have e:(ag t==t)=eO t:=by
  rw [Bool.eq_iff_iff,beq_iff_eq];exact iI t
 rw [e,bne_self_eq_false,if_neg aaj]
 cases h:eO t with
 | true=>rfl
 | false =>
  rw [if_neg aaj,if_neg aaj]
  have hn:ag t≠t:=fun z=>by rw [(iI t).mp z] at h;injection h
  by_cases hl:t.length≤(ag t).length
  ·rw [← vO hn hl,beq_self_eq_true];simp
  ·rw [decide_eq_false hl];rfl
theorem cP {n:Nat}{t:W}(h:ag t=t):loop (n+1) t=true:=by rw [iL,if_pos (beq_iff_eq.mpr h)]
theorem qr {n:Nat}{t:W}(h:loop n (ag t)=true):loop (n+1) t=true:=by
 rw [iL];split
 ·rfl
 ·exact h
theorem bz:∀ {n m:Nat}{t:W},n≤m→loop n t=true→loop m t=true
 | 0,_,_,_,h=>Bool.noConfusion h
 | n+1,m+1,t,hm,h=>by
  rw [iL] at h ⊢
  split
  ·rfl
  ·rename_i z
   rw [if_neg z] at h
   exact bz (Nat.le_of_succ_le_succ hm) h
theorem dA {w:W}(h:w.length<3):ag w=w:=by
 have k:aE.lookup w=none:=by
  cases q:aE.lookup w with
  | none=>rfl
  | some t =>
   have z:(aE.all fun e=>decide (3≤e.1.length))=true:=by decide
   have:=of_decide_eq_true (aab.mp z _ (bX q))
   exact absurd h (Nat.not_lt.mpr this)
 unfold ag;rw [k]
 simp only [decide_eq_true h,Bool.or_true,if_true]
theorem uJ:(aE.all fun e=>loop (e.1.length - 1) e.1)=true:=by decide +kernel
theorem iM {w:W}(h1:aE.lookup w=none) (hn:ag w≠w):(kept.contains w||decide (w.length<3))=false:=by
 cases h2:(kept.contains w||decide (w.length<3)) with
 | false=>rfl
 | true =>
  exfalso;apply hn
  unfold ag;rw [h1];simp only [h2,if_true]
theorem pT (w:W):(ag w).length≤w.length:=by
 cases h1:aE.lookup w with
 | some t =>
  have e:ag w=t:=by unfold ag;rw [h1]
  have z:(aE.all fun e=>decide (e.2.length≤e.1.length))=true:=by decide
  rw [e];exact of_decide_eq_true (aab.mp z _ (bX h1))
 | none =>
  cases h2:(kept.contains w||decide (w.length<3)) with
  | true =>
   have:ag w=w:=by unfold ag;rw [h1];simp only [h2,if_true]
   rw [this];exact Nat.le_refl _
  | false =>
   cases h3:(w.head?==some 39) with
   | true=>exact Nat.le_of_lt (lQ h1 h2 h3)
   | false =>
    rw [fc h1 h2,unq h3]
    have sl:=mU (first (ad w)) (az (ad w)) (ad w).reverse
    rw [aad,be] at sl
    dsimp only
    split
    ·rw [aad];exact sl
    ·rw [cr,aad];exact sl
theorem iN:∀ (n:Nat) (w:W),w.length≤n→w.contains 89=false→loop (w.length - 2+1) w=true
 | 0,w,hl,_=>cP (dA (Nat.lt_of_le_of_lt (by assumption) (by decide)))
 | n+1,w,hl,hy=>by
  by_cases hf:ag w=w
  ·exact cP hf
  have h3:3≤w.length:=Nat.le_of_not_lt fun z=>hf (dA z)
  cases h1:aE.lookup w with
  | some t =>
   have z:=aab.mp uJ _ (bX h1)
   exact bz (by show w.length - 1≤_;omega) z
  | none =>
   have h2:=iM h1 hf
   apply qr
   rcases Nat.lt_or_ge (ag w).length w.length with hs | hs
   ·have ih:=iN n (ag w) (by lia) (xA hy)
    exact bz (by omega) ih
   ·have fx:=jS h1 h2 hf hs (.inr hy)
    exact bz (by omega) (cP (n:=0) fx)
theorem oS:∀ t:W,2≤t.length→2≤aZ t
 | a :: b :: t,_=>by
  unfold aZ
  have:(((a :: b :: t).dropWhile fun c=>!vow c).dropWhile vow).tail.length≤t.length:=by
   rw [List.dropWhile_cons]
   cases ha:vow a with
   | true =>
    show (((if (!true)=true then _ else a :: b :: t):W).dropWhile vow).tail.length≤_
    rw [if_neg (by decide),List.dropWhile_cons,ha,if_pos rfl,List.length_tail]
    have:=(List.dropWhile_sublist (l:=b :: t) vow).length_le
    simp only [List.length_cons] at this;omega
   | false =>
    show (((if (!false)=true then (b :: t).dropWhile _ else _):W).dropWhile vow).tail.length≤_
    rw [if_pos (show (!false)=true from rfl),List.length_tail]
    have x1:=(List.dropWhile_sublist (l:=(b :: t).dropWhile fun c=>!vow c) vow).length_le
    have x2:=(List.dropWhile_sublist (l:=b :: t) fun c=>!vow c).length_le
    simp only [List.length_cons] at x2;omega
  simp only [List.length_cons];omega
theorem iY:(a8.all fun f=>decide (4≤f.length))=true:=by decide
theorem d6 (t:W) (h:2≤t.length):2≤first t:=by
 unfold first
 cases q:a8.find? fun f=>f.isPrefixOf t with
 | none=>exact oS t h
 | some f=>exact aaf (by decide) (of_decide_eq_true (aab.mp iY f (List.mem_of_find?_eq_some q)))
theorem tq (t:W) (h:t.length=3):az t=3:=by
 have a:=d6 t (by omega)
 have b:=mT t
 unfold az
 rcases Nat.lt_or_ge (first t) 3 with z | z
 ·have e:first t=2:=by omega
  rw [e]
  have:(t.drop 2).length=1:=by rw [aal];omega
  obtain ⟨x,hx⟩:=List.length_eq_one_iff.mp this
  rw [hx,gR]
 ·have e:first t=3:=by omega
  rw [e]
  have:t.drop 3=[]:=List.drop_eq_nil_of_le (by omega)
  rw [this];rfl
theorem AR:(gG.all fun e=>decide (2≤e.1.length))=true:=by decide
theorem Dd:(far.all fun e=>decide (1≤e.1.length))=true:=by decide
theorem uK {t:W}(h:t.length=3):dy gG (first t) t.reverse=false∧dy far (az t) t.reverse=false:=by
 have a:=d6 t (by omega)
 have b:=tq t h
 constructor
 ·unfold dy
  cases q:ae gG t.reverse with
  | none=>rfl
  | some e =>
   have l:=of_decide_eq_true (aab.mp AR _ (aa q).1)
   show (inR (first t) t.reverse e.1.length&&_)=false
   rw [show inR (first t) t.reverse e.1.length=false from decide_eq_false (by rw [aad];omega)];rfl
 ·unfold dy
  cases q:ae far t.reverse with
  | none=>rfl
  | some e =>
   have l:=of_decide_eq_true (aab.mp Dd _ (aa q).1)
   show (inR (az t) t.reverse e.1.length&&_)=false
   rw [show inR (az t) t.reverse e.1.length=false from decide_eq_false (by rw [aad];omega)];rfl
theorem gc {t:W}(h:t.length=3) (h1:aE.lookup t=none) (h3:(t.head?==some 39||gb t)=false) (h5:(t.contains 89&&!(ad t==t))=false) (ht:bB (first (ad t)) (ad t).reverse=true):ag t=t:=by
 rw [iI]
 unfold eO
 rw [h1,if_neg (show ¬ ((none:Option W).isSome=true) from aaj)]
 split
 ·rfl
 ·rw [h3,if_neg aaj,h5,if_neg aaj]
  obtain ⟨a,b⟩:=uK (t:=ad t) (by rw [be];exact h)
  unfold gu
  rw [a,b,ht];rfl
end Mine.Eng
end
section
open PySem PySem.W PyProof.Rows
open Mine.Eng
namespace Mine
section
variable {G:Sg}{k n m p:Nat}{ρ:Rho}{σ:St}{x:X}{xs:List X}{vs:List V}{v:V}{f:Nat}{t r:List Nat}{Q:aP}
theorem AS (w:List Nat) (a:Nat):cut w none (some (a:Int))=w.take a:=by
 unfold cut
 show (w.drop 0).take (clipAt w.length (a:Int) - 0)=_
 rw [eU,List.drop_zero,Nat.sub_zero]
 rcases Nat.le_total a w.length with h | h
 ·rw [Nat.min_eq_left h]
 ·rw [Nat.min_eq_right h,List.take_of_length_le h,List.take_of_length_le (Nat.le_refl _)]
theorem lH {a b:X}{w:List Nat}{i:Int}{j:Nat}(h1:ev G ρ σ a=some (.str w,σ)) (h2:ev G ρ σ b=some (.int i,σ)) (e:i=j):ev G ρ σ (.slc a .non b)=some (.str (w.take j),σ):=by
 subst e
 show (ev G ρ σ a).bind _=_
 rw [h1];show (ev G ρ σ b).bind _=_
 rw [h2];show some (V.str (cut w none (some (j:Int))),σ)=_
 rw [AS]
theorem xB (k:Nat):(GG (k+1)).Ψ 3 []=some (.list ((aE.map Prod.fst).map .str)):=by
 rw [show aE.map Prod.fst=[[101,97,114,108,121],[103,101,110,116,108,121],[105,100,108,121],[111,110,108,121],[115,105,110,103,108,121],[115,107,105,101,115],[115,107,105,115],[117,103,108,121]] by decide +kernel]
 exact dg rfl fun σ=>.ret rfl ⟨rfl,rfl⟩
theorem De (k:Nat):(GG (k+1)).Ψ 2 []=some (.list (kept.map .str)):=by
 rw [show kept=[[97,110,100,101,115],[97,116,108,97,115],[98,105,97,115],[99,111,115,109,111,115],[104,111,119,101],[110,101,119,115],[115,107,121]] by decide +kernel]
 exact dg rfl fun σ=>.ret rfl ⟨rfl,rfl⟩
theorem zf (k:Nat):(GG (k+1)).Ψ 4 []=some (.list (a8.map .str)):=by
 rw [show a8=[[97,114,115,101,110],[99,111,109,109,117,110],[101,109,101,114,103],[103,101,110,101,114],[105,110,116,101,114],[108,97,116,101,114],[111,114,103,97,110],[112,97,115,116],[117,110,105,118,101,114,115]] by decide +kernel]
 exact dg rfl fun σ=>.ret rfl ⟨rfl,rfl⟩
theorem lT:∀ (l:List (List Nat×List Nat)) (t:List Nat),(l.lookup t).isSome=(l.map Prod.fst).contains t
 | [],t=>rfl
 | e :: l,t=>by
  rw [List.lookup_cons,List.map_cons,List.contains_cons,← lT l t]
  cases t==e.1<;>rfl
theorem zg {a b:X}{l s:List Nat}(h1:ev G ρ σ a=some (.str l,σ)) (h2:ev G ρ σ b=some (.str s,σ)):ev G ρ σ (.sm .starts a b)=some (.bool (s.isPrefixOf l),σ):=by
 show (ev G ρ σ a).bind _=_
 rw [h1];show (ev G ρ σ b).bind _=_
 rw [h2];show some (V.bool (kO s l),σ)=_
 have:kO s l=s.isPrefixOf l:=by
  unfold kO
  rw [Bool.eq_iff_iff,decide_eq_true_iff,aae,List.prefix_iff_eq_take]
  exact ⟨fun h=>h.symm,fun h=>h.symm⟩
 rw [this]
noncomputable def oU (l:List (List Nat)) (t:List Nat) (i:Nat):Nat:=match l.find? (fun f=>f.isPrefixOf t) with
 | some f=>f.length
 | none=>i
theorem tz (t:List Nat):oU a8 t (aZ t)=first t:=rfl
theorem tA {w K t:List Nat}{z5:Option V} : ∀ (l:List (List Nat)) (i:Nat) (row:Option V),(∀ f∈l,∀ g∈l,f <+: t→g <+: t→f=g)→(∀ row,Q .next [some (.str w),some (.str t),some (.str K),some (.int (oU l t i:Nat)),row,z5] σ) →
 RF G n 4 [.ite (.sm .starts (.loc 1) (.loc 4)) [.set 3 (.bi .len [.loc 4])] []] (l.map .str) [some (.str w),some (.str t),some (.str K),some (.int (i:Nat)),row,z5] σ Q
 | [],i,row,_,hQ=>.nil (hQ row)
 | f :: l,i,row,hu,hQ=>by
  have hu':∀ f∈l,∀ g∈l,f <+: t→g <+: t→f=g:=fun a ha b hb=>hu a (aag _ ha) b (aag _ hb)
  refine .turn (.ite (zg rfl rfl) (fun h=>?_) fun h=>?_)
  ·refine .set (v:=.int (f.length:Nat)) rfl (.nil (.nil (tA l f.length _ hu' fun row=>?_)))
   have:=hQ row
   unfold oU at this ⊢
   rw [List.find?_cons,h] at this
   cases hf:l.find? (fun f=>f.isPrefixOf t) with
   | none=>exact this
   | some g =>
    have e:f=g:=hu f aam g (aag _ (List.mem_of_find?_eq_some hf)) (aae.mp h) (aae.mp (List.find?_some (p:=fun f:List Nat=>f.isPrefixOf t) hf))
    exact e▸this
  ·refine .nil (.nil (tA l i _ hu' fun row=>?_))
   have:=hQ row
   unfold oU at this ⊢
   rw [List.find?_cons,h] at this
   exact this
theorem xC (t:List Nat):∀ f∈a8,∀ g∈a8,f <+: t→g <+: t→f=g:=fun f hf g hg p q=>by
 have k3:=(aac.mp gP).2
 rcases Nat.le_total f.length g.length with h | h
 ·have:=aab.mp (aab.mp k3 f hf) g hg
  rw [aae.mpr (List.prefix_of_prefix_length_le p q h),Bool.not_true,Bool.or_false] at this
  exact eq_of_beq this
 ·have:=aab.mp (aab.mp k3 g hg) f hf
  rw [aae.mpr (List.prefix_of_prefix_length_le q p h),Bool.not_true,Bool.or_false] at this
  exact (eq_of_beq this).symm
theorem zh (h:n≤r.length):inV (.str [118]) (.str ((r.reverse.map kd).take (r.length - n)))=some ((r.drop n).any vow):=by
 have e:(r.reverse.map kd).take (r.length - n)=((r.drop n).map kd).reverse:=by
  rw [← List.map_take,List.take_reverse,← List.map_reverse,Nat.sub_sub_self h]
 rw [e]
 show some (decide (118∈((r.drop n).map kd).reverse))=_
 congr 1
 rw [Bool.eq_iff_iff,decide_eq_true_iff,List.mem_reverse,List.mem_map,List.any_eq_true]
 constructor
 ·rintro ⟨a,h,e⟩
  refine ⟨a,h,?_⟩
  have:=pQ a
  rw [e] at this;exact this.symm
 ·rintro ⟨a,h,e⟩
  exact ⟨a,h,by have:=pQ a;rw [e] at this;exact eq_of_beq this⟩
theorem AT {L:List (List Nat)}(h:n≤r.length):inV (.str (r.reverse.take (r.length - n))) (.list (L.map .str))=some ((L.map List.reverse).contains (r.drop n)):=by
 rw [List.take_reverse,Nat.sub_sub_self h]
 refine (dw _ _).trans (congrArg some ?_)
 rw [Bool.eq_iff_iff,aak,aak,List.mem_map]
 exact ⟨fun h=>⟨_,h,aaq _⟩,fun ⟨a,h,e⟩=>by rw [← e,aaq];exact h⟩
end
noncomputable def xD:List S:=[.ite (.disj [.sm .ends (.loc 1) (.str [117,115]),.sm .ends (.loc 1) (.str [115,115])]) [.ret (.bool true)] [],
 .ite (.sm .ends (.loc 1) (.str [115])) [.ret (.conj [.not (.sm .ends (.loc 1) (.str [115,115,101,115])),.cmp .notin (.str [118]) (.slc (.loc 2) .non (.bin .sub (.loc 5) (.int 2)))])] [],
 .ite (.sm .ends (.loc 1) (.str [101,101,100])) [.ret (.disj [.cmp .lt (.bin .sub (.loc 5) (.int 3)) (.loc 3),.cmp .isin (.slc (.loc 1) .non (.bin .sub (.loc 5) (.int 3))) (.lst [.str [115,117,99,99],.str [112,114,111,99],.str [101,120,99]])])] [],
 .ite (.sm .ends (.loc 1) (.str [101,100])) [.ret (.cmp .notin (.str [118]) (.slc (.loc 2) .non (.bin .sub (.loc 5) (.int 2))))] [],
 .ite (.sm .ends (.loc 1) (.str [105,110,103])) [.ret (.disj [.cmp .notin (.str [118]) (.slc (.loc 2) .non (.bin .sub (.loc 5) (.int 3))),.cmp .isin (.slc (.loc 1) .non (.bin .sub (.loc 5) (.int 3))) (.lst [.str [101,118,101,110],.str [99,97,110,110],.str [105,110,110],.str [101,97,114,114],.str [104,101,114,114],.str [111,117,116]])])] [],
 .ite (.cmp .isin (.idx (.loc 1) (.bin .sub (.loc 5) (.int 1))) (.lst [.str [121],.str [89]])) [.ret (.cmp .eq (.idx (.loc 2) (.bin .sub (.loc 5) (.int 2))) (.str [118]))] [],
 .ite (.conj [.sm .ends (.loc 1) (.str [101]),.cmp .ge (.bin .sub (.loc 5) (.int 1)) (.loc 3)]) [.ite (.disj [.sm .ends (.loc 1) (.str [112,97,115,116,101]),.cmp .eq (.loc 2) (.str [118,99,118])]) [.ret (.bool true)] [],
  .ret (.conj [.sm .ends (.loc 2) (.str [99,118,99,118]),.cmp .notin (.idx (.loc 1) (.bin .sub (.loc 5) (.int 2))) (.lst [.str [119],.str [120],.str [89]])])] [],
 .ret (.bool true)]
theorem Df:rk "us"=[115,117]∧rk "ss"=[115,115]∧rk "s"=[115]∧rk "sses"=[115,101,115,115]∧rk "eed"=[100,101,101]∧rk "ed"=[100,101]∧rk "ing"=[103,110,105]∧rk "e"=[101]:=by decide +kernel
noncomputable def oV (p1:Nat) (r:List Nat):Bool :=
 if ([115,117].isPrefixOf r||[115,115].isPrefixOf r)=true then true
 else if [115].isPrefixOf r=true then !([115,101,115,115]:List Nat).isPrefixOf r&&!(r.drop 2).any vow
 else if [100,101,101].isPrefixOf r=true then !Eng.inR p1 r 3||gq.contains (r.drop 3)
 else if [100,101].isPrefixOf r=true then !(r.drop 2).any vow
 else if [103,110,105].isPrefixOf r=true then !(r.drop 3).any vow||d0.contains (r.drop 3)
 else if (r.head?==some 121||r.head?==some 89)=true then bC [97,101,105,111,117,121] (r.drop 1)
 else if ([101].isPrefixOf r&&Eng.inR p1 r 1)=true then aF (r.drop 1)
 else true
theorem AU (p1:Nat) (r:List Nat):bB p1 r=oV p1 r:=by
 obtain ⟨h1,h2,h3,h4,h5,h6,h7,h8⟩:=Df
 unfold bB oV
 rw [h1,h2,h3,h4,h5,h6,h7,h8]
section
variable {G:Sg}{k n m p:Nat}{ρ:Rho}{σ:St}{x:X}{xs:List X}{vs:List V}{v:V}{f:Nat}{t r:List Nat}{Q:aP}{w:List Nat}{row:Option V}
theorem Dg (y:Nat):jM y=(vow y||([119,120,89]:List Nat).contains y):=by
 exact (List.Perm.contains_eq (l₂:=[97,101,105,111,117,121]++[119,120,89]) (by decide)).trans List.contains_append
theorem zi (z:Nat):([121,89]:List Nat).contains z=(some z==some 121||some z==some 89):=by
 show (match z==121 with | true=>true | false=>(match z==89 with | true=>true | false=>false))=(z==121||z==89)
 cases z==121<;>cases z==89<;>rfl
noncomputable def vcv (z y x:Nat) (r':List Nat):Bool:=(z :: y :: x :: r').reverse.map kd==[118,99,118]
noncomputable def tB (z y x:Nat) (r':List Nat):Bool:=([118,99,118,99]:List Nat).isPrefixOf ((z :: y :: x :: r').map kd)
theorem tC (y x:Nat) (r':List Nat):aF (y :: x :: r')=(([116,115,97,112]:List Nat).isPrefixOf (y :: x :: r')||vcv 101 y x r'||(tB 101 y x r'&&!([119,120,89]:List Nat).contains y)):=by
 rw [qj]
 have k1:kd 101=118:=rfl
 cases r' with
 | nil =>
  have e1:tB 101 y x []=false:=by
   show (118==118&&(99==kd y&&(118==kd x&&false)))=false
   rw [Bool.and_false,Bool.and_false,Bool.and_false]
  have e2:vcv 101 y x []=(!vow y&&vow x):=by
   show (kd x==118&&(kd y==99&&(118==118&&true)))=_
   rw [pQ,xt]
   show (vow x&&(!vow y&&true))=_
   cases vow x<;>cases vow y<;>rfl
  rw [e1,e2]
  show (false||(!vow y&&vow x)||_)=_
  rw [Bool.false_or,Bool.false_and,Bool.or_false,Bool.or_comm];rfl
 | cons u r' =>
  have e1:tB 101 y x (u :: r')=(!vow y&&vow x&&!vow u):=by
   show (118==118&&(99==kd y&&(118==kd x&&(99==kd u&&true))))=_
   rw [show (99==kd y)=(kd y==99) from Bool.beq_comm,show (118==kd x)=(kd x==118) from Bool.beq_comm,show (99==kd u)=(kd u==99) from Bool.beq_comm,pQ,xt,xt]
   show (true&&(!vow y&&(vow x&&(!vow u&&true))))=_
   cases vow x<;>cases vow y<;>cases vow u<;>rfl
  have e2:vcv 101 y x (u :: r')=false:=by
   unfold vcv
   refine beq_eq_false_iff_ne.mpr fun h=>?_
   have:=congrArg List.length h
   simp at this
  have e3:A1 (y :: x :: u :: r')=(!vow y&&vow x&&!vow u&&!([119,120,89]:List Nat).contains y):=by
   show (!jM y&&vow x&&!vow u)=_
   rw [Dg]
   cases vow x<;>cases vow y<;>cases vow u<;>cases ([119,120,89]:List Nat).contains y<;>rfl
  rw [e1,e2,e3,Bool.or_false]
  show (_||false||_)=_
  rw [Bool.or_false,Bool.or_comm];rfl
noncomputable def tρ (w r:List Nat) (p:Nat) (row:Option V):Rho:=[some (.str w),some (.str r.reverse),some (.str (r.reverse.map kd)),some (.int p),row,some (.int r.length)]
theorem fM (s:List Nat):ev G (tρ w r p row) σ (.sm .ends (.loc 1) (.str s))=some (.bool (s.reverse.isPrefixOf r),σ):=by
 have:=jp (G:=G) (σ:=σ) (ρ:=tρ w r p row) (a:=.loc 1) (b:=.str s) (l:=r.reverse) rfl rfl
 rw [aaq] at this;exact this
theorem pU (hn:n≤r.length):ev G (tρ w r p row) σ (.cmp .notin (.str [118]) (.slc (.loc 2) .non (.bin .sub (.loc 5) (.int n))))=some (.bool (!(r.drop n).any vow),σ) :=
 mO rfl (lH (j:=r.length - n) rfl (dc rfl rfl) (Int.ofNat_sub hn).symm) (zh hn)
theorem vP {L K:List (List Nat)}(hn:n≤r.length) (hK:K=L.map List.reverse) (hb:ev G (tρ w r p row) σ (.lst (L.map .str))=some (.list (L.map .str),σ)):ev G (tρ w r p row) σ (.cmp .isin (.slc (.loc 1) .non (.bin .sub (.loc 5) (.int n))) (.lst (L.map .str)))=some (.bool (K.contains (r.drop n)),σ):=by
 subst hK
 exact cK (lH (a:=.loc 1) (b:=.bin .sub (.loc 5) (.int n)) (w:=r.reverse) (j:=r.length - n) rfl (dc rfl rfl) (Int.ofNat_sub hn).symm) hb (AT hn)
theorem xE {a b:X}{x y:Bool}(ea:ev G ρ σ a=some (.bool x,σ)) (eb:ev G ρ σ b=some (.bool y,σ)):ev G ρ σ (.disj [a,b])=some (.bool (x||y),σ):=by
 have:=eo ea fun zz=>eo (r:=[]) (q:=false) eb fun zz=>rfl
 rw [Bool.or_false] at this;exact this
theorem qT {a b:X}{x y:Bool}(ea:ev G ρ σ a=some (.bool x,σ)) (eb:ev G ρ σ b=some (.bool y,σ)):ev G ρ σ (.conj [a,b])=some (.bool (x&&y),σ):=by
 have:=bK ea fun zz=>bK (r:=[]) (q:=true) eb fun zz=>rfl
 rw [Bool.and_true] at this;exact this
theorem He {a:X}{x:Bool}(ea:ev G ρ σ a=some (.bool x,σ)):ev G ρ σ (.not a)=some (.bool (!x),σ):=by
 show (ev G ρ σ a).bind _=_
 rw [ea];rfl
theorem jq {b:Bool}{c:X}{v v':Bool}{rest:List S}(ec:ev G ρ σ c=some (.bool b,σ)) (ex:ev G ρ σ x=some (.bool v,σ)) (h:∀ ρ,Q (.ret (.bool (if b=true then v else v'))) ρ σ) (k:(∀ ρ,Q (.ret (.bool v')) ρ σ)→RB G n rest ρ σ Q):RB G n (.ite c [.ret x] [] :: rest) ρ σ Q:=by
 cases b with
 | true=>exact .iteT ec (.ret ex (h ρ))
 | false=>exact .skip ec (k h)
theorem Hf {k:Nat}(hk:k≤r.length):decide ((r.length:Int) - k<p) = !Eng.inR p r k:=by
 unfold Eng.inR
 cases z:decide (p≤r.length - k) with
 | true=>have:=of_decide_eq_true z;exact decide_eq_false (by lia)
 | false=>have:=of_decide_eq_false z;exact decide_eq_true (by lia)
theorem tj {z y x:Nat}{r':List Nat}(h:∀ ρ,Q (.ret (.bool (if ([101].isPrefixOf (z :: y :: x :: r')&&Eng.inR p (z :: y :: x :: r') 1)=true then aF (y :: x :: r') else true))) ρ σ) (at2:((z :: y :: x :: r').reverse)[r'.length+1]? = some y):RB G n (xD.drop 6) (tρ w (z :: y :: x :: r') p row) σ Q:=by
 have e1:decide (((z :: y :: x :: r').length:Int) - 1≥p)=Eng.inR p (z :: y :: x :: r') 1:=by
  unfold Eng.inR
  rw [show ((z :: y :: x :: r').length:Int) - 1=((r'.length+2:Nat):Int) from Int.add_sub_cancel ((r'.length+2:Nat):Int) 1]
  exact decide_eq_decide.mpr ⟨fun h=>Int.ofNat_le.mp h,fun h=>Int.ofNat_le.mpr h⟩
 have ec:=qT (G:=G) (σ:=σ) (fM (w:=w) (r:=z :: y :: x :: r') (p:=p) (row:=row) [101]) (b:=.cmp .ge (.bin .sub (.loc 5) (.int 1)) (.loc 3)) (y:=decide (((z :: y :: x :: r').length:Int) - 1≥p)) rfl
 rw [e1] at ec
 refine .ite ec (fun q=>?_) fun q=>.nil (.ret (v:=.bool true) rfl ?_)
 ·have q:(([101]:List Nat).isPrefixOf (z :: y :: x :: r')&&Eng.inR p (z :: y :: x :: r') 1)=true:=q
  rw [if_pos q] at h
  have z1:101=z:=by
   have q1:((101==z)&&true)=true:=(aac.mp q).1
   rw [Bool.and_true] at q1;exact eq_of_beq q1
  subst z1
  have e2:=tC y x r'
  have ed:=xE (fM (G:=G) (σ:=σ) (w:=w) (r:=101 :: y :: x :: r') (p:=p) (row:=row) [112,97,115,116,101]) (dE (a:=.loc 2) (b:=.str [118,99,118]) rfl rfl)
  refine .ite ed (fun q=>.ret (v:=.bool true) rfl ?_) fun q=>.nil (.ret (v:=.bool (aF (y :: x :: r'))) ?_ (h _))
  ·have:aF (y :: x :: r')=true:=e2.trans (congrArg (·||_) q)
   rw [← this];exact h _
  ·rw [show aF (y :: x :: r')=(tB 101 y x r'&&!([119,120,89]:List Nat).contains y) from e2.trans (congrArg (·||_) q)]
   have k1:=jp (G:=G) (σ:=σ) (ρ:=tρ w (101 :: y :: x :: r') p row) (a:=.loc 2) (b:=.str [99,118,99,118]) rfl rfl
   rw [show ([99,118,99,118]:List Nat).reverse.isPrefixOf ((101 :: y :: x :: r').reverse.map kd).reverse=tB 101 y x r' by rw [← List.map_reverse,aaq];rfl] at k1
   exact qT k1 (mO (a:=.idx (.loc 1) (.bin .sub (.loc 5) (.int 2))) (b:=.lst [.str [119],.str [120],.str [89]]) (va:=.str [y]) (vb:=.list (([119,120,89].map fun x=>[x]).map .str)) (bJ (dQ (i:=r'.length+1) (by simp only [List.length_cons];lia) at2) rfl rfl) rfl ((dw _ _).trans (congrArg some (oG _ _))))
 ·have q:(([101]:List Nat).isPrefixOf (z :: y :: x :: r')&&Eng.inR p (z :: y :: x :: r') 1)=false:=q
  rw [if_neg (ne_true_of_eq_false q)] at h;exact h _
theorem oM {z y x:Nat}{r':List Nat}(h:∀ ρ,Q (.ret (.bool (if ((z :: y :: x :: r').head?==some 121||(z :: y :: x :: r').head?==some 89)=true then bC [97,101,105,111,117,121] (y :: x :: r') else if ([101].isPrefixOf (z :: y :: x :: r')&&Eng.inR p (z :: y :: x :: r') 1)=true then aF (y :: x :: r') else true))) ρ σ):RB G n (xD.drop 5) (tρ w (z :: y :: x :: r') p row) σ Q:=by
 have rl:(z :: y :: x :: r').length=r'.length+3:=rfl
 have at1:((z :: y :: x :: r').reverse)[r'.length+2]? = some z:=by rw [List.getElem?_reverse (by rw [rl];exact Nat.le_refl _),rl];simp
 have at2:((z :: y :: x :: r').reverse)[r'.length+1]? = some y:=by rw [List.getElem?_reverse (by rw [rl];exact Nat.le_succ _),rl];simp
 have e:([kd y]==[118])=vow y:=by rw [← pQ];show (kd y==118&&true)=_;rw [Bool.and_true]
 refine jq (cK (va:=.str [z]) (vb:=.list (([121,89].map fun x=>[x]).map .str)) (p:=(some z==some 121||some z==some 89)) (bJ (dQ (i:=r'.length+2) (by rw [rl];lia) at1) rfl rfl) rfl ((dw _ _).trans (congrArg some ((oG _ _).trans (zi z))))) (v:=vow y) ?_ h fun h=>tj h at2
 rw [← e]
 exact dE (a:=.idx (.loc 2) (.bin .sub (.loc 5) (.int 2))) (b:=.str [118]) (bJ (dQ (i:=r'.length+1) (by rw [rl];lia) (by rw [List.getElem?_map,at2];rfl)) rfl rfl) rfl
theorem lU:∀ {r:List Nat},3≤r.length→∃ z y x r',r=z :: y :: x :: r'
 | z :: y :: x :: r',_=>⟨z,y,x,r',rfl⟩
theorem Dh (hr:3≤r.length) {R:aP}(h:∀ ρ,R (.ret (.bool (oV p r))) ρ σ):RB G n xD (tρ w r p row) σ R:=by
 have l2:=Nat.le_of_succ_le hr
 refine jq (xE (fM [117,115]) (fM [115,115])) (v:=true) rfl h fun h=>?_
 refine jq (fM [115]) (qT (He (fM [115,115,101,115])) (pU l2)) h fun h=>?_
 refine jq (fM [101,101,100]) (xE (x:=!Eng.inR p r 3) (Hf (r:=r) (p:=p) hr▸rfl) (vP (L:=[[115,117,99,99],[112,114,111,99],[101,120,99]]) hr (by decide +kernel) rfl)) h fun h=>?_
 refine jq (fM [101,100]) (pU l2) h fun h=>?_
 refine jq (fM [105,110,103]) (xE (pU hr) (vP (L:=[[101,118,101,110],[99,97,110,110],[105,110,110],[101,97,114,114],[104,101,114,114],[111,117,116]]) hr (by decide +kernel) rfl)) h fun h=>?_
 obtain ⟨z,y,x,r',rfl⟩:=lU hr
 exact oM h
end
section
variable {G:Sg}{k n m p:Nat}{ρ:Rho}{σ:St}{x:X}{xs:List X}{vs:List V}{v:V}{f:Nat}{t r w:List Nat}{Q:aP}
theorem Fw {a:X}{p:Bool}(h:ev G ρ σ a=some (.bool p,σ)):ev G ρ σ (.not a)=some (.bool (!p),σ):=by
 show (ev G ρ σ a).bind _=_
 rw [h];rfl
theorem AV (k:Nat) (hw:w.length≤700):(GG (k+3)).Ψ 10 [.str w]=some (.bool (eO w)):=by
 refine dg rfl fun σ=>?_
 unfold eO
 refine .ite (p:=(aE.lookup w).isSome) (cK rfl (cE rfl (xB (k+1))) ((dw _ _).trans (congrArg some (lT _ _).symm))) (fun q=>?_) fun q=>.nil ?_
 ·rw [if_pos q];exact .ret rfl ⟨rfl,rfl⟩
 rw [if_neg (ne_true_of_eq_false q)]
 have c2:=eo (G:=GG (k+2)) (σ:=σ) (ρ:=[some (.str w),none,none,none,none,none]) (a:=.cmp .isin (.loc 0) (.call 2 [])) (r:=[.cmp .lt (.bi .len [.loc 0]) (.int 3)]) (p:=kept.contains w) (q:=decide (w.length<3)) (cK rfl (cE rfl (De (k+1))) (dw _ _)) fun zz=>by
  have:=eo (G:=GG (k+2)) (σ:=σ) (ρ:=[some (.str w),none,none,none,none,none]) (a:=.cmp .lt (.bi .len [.loc 0]) (.int 3)) (r:=[]) (p:=decide ((w.length:Int)<3)) (q:=false) rfl fun zz=>rfl
  rw [Bool.or_false,show decide ((w.length:Int)<3)=decide (w.length<3) by rw [Bool.eq_iff_iff,decide_eq_true_iff,decide_eq_true_iff];omega] at this
  exact this
 refine .ite c2 (fun q=>?_) fun q=>.nil ?_
 ·rw [if_pos q];exact .ret rfl ⟨rfl,rfl⟩
 rw [if_neg (ne_true_of_eq_false q)]
 have l3:3≤w.length:=by
  have:=of_decide_eq_false (Bool.or_eq_false_iff.mp q).2
  omega
 obtain ⟨a,w',rfl⟩:∃ a w',w=a :: w':=by
  cases w with
  | nil=>simp at l3
  | cons a w'=>exact ⟨_,_,rfl⟩
 have c3:ev (GG (k+2)) [some (.str (a :: w')),none,none,none,none,none] σ (.disj [.cmp .eq (.idx (.loc 0) (.int 0)) (.str [39]),.sm .ends (.loc 0) (.str [39]),.sm .ends (.loc 0) (.str [39,115])])=some (.bool ((a :: w').head?==some 39||gb (a :: w')),σ):=by
  have h:=eo (G:=GG (k+2)) (σ:=σ) (ρ:=[some (.str (a :: w')),none,none,none,none,none]) (a:=.cmp .eq (.idx (.loc 0) (.int 0)) (.str [39])) (r:=[.sm .ends (.loc 0) (.str [39]),.sm .ends (.loc 0) (.str [39,115])]) (p:=[a]==[39]) (q:=gb (a :: w')) (dE (bJ (dQ (i:=0) rfl rfl) rfl rfl) rfl) fun zz=>by
   have:=eo (G:=GG (k+2)) (σ:=σ) (ρ:=[some (.str (a :: w')),none,none,none,none,none]) (jp (a:=.loc 0) (b:=.str [39]) rfl rfl) fun zz=>eo (r:=[]) (q:=false) (jp (a:=.loc 0) (b:=.str [39,115]) rfl rfl) fun zz=>rfl
   rw [Bool.or_false] at this
   rw [this]
   unfold gb
   rw [show rk "'"=[39].reverse by decide +kernel,show rk "'s"=[39,115].reverse by decide +kernel]
  rw [h]
  rw [show ([a]==[39])=((a :: w').head?==some 39) by show (a==39&&true)=(a==39);rw [Bool.and_true]]
 refine .ite c3 (fun q=>?_) fun q=>.nil ?_
 ·rw [if_pos q];exact .ret rfl ⟨rfl,rfl⟩
 rw [if_neg (ne_true_of_eq_false q)]
 generalize a :: w'=w at *
 refine .set (cE rfl (qm k (aaf (by assumption) (by decide)))) ?_
 have lm:(ad w).length=w.length:=be w
 have c5:ev (GG (k+2)) [some (.str w),some (.str (ad w)),none,none,none,none] σ (.conj [.cmp .isin (.str [89]) (.loc 0),.cmp .ne (.loc 1) (.loc 0)])=some (.bool (w.contains 89&&!(ad w==w)),σ):=by
  have:=bK (cK (G:=GG (k+2)) (σ:=σ) (ρ:=[some (.str w),some (.str (ad w)),none,none,none,none]) (a:=.str [89]) (b:=.loc 0) rfl rfl (gV w 89)) fun zz=>bK (r:=[]) (q:=true) (yX (a:=.loc 1) (b:=.loc 0) (l:=ad w) (m:=w) rfl rfl) fun zz=>rfl
  rw [Bool.and_true] at this;exact this
 refine .ite c5 (fun q=>?_) fun q=>.nil ?_
 ·rw [if_pos q];exact .ret rfl ⟨rfl,rfl⟩
 rw [if_neg (ne_true_of_eq_false q)]
 generalize ad w=m at lm
 refine .set (cE rfl (AI k (by omega))) ?_
 have b0:=qn (t:=m) (p:=0) (k+1) (by omega) (Nat.zero_le _)
 rw [Nat.zero_add,List.drop_zero] at b0
 refine .set (cE (vs:=[.str (m.map kd),.int (0:Nat)]) rfl b0) ?_
 refine .for1 (cE rfl (zf (k+1))) rfl (tA a8 (aZ m) none (xC m) fun row=>?_)
 rw [tz]
 have f2:=d6 m (by omega)
 have fl:=mT m
 have mv:=eo (G:=GG (k+2)) (σ:=σ) (ρ:=[some (.str w),some (.str m),some (.str (m.map kd)),some (.int (first m)),row,none]) (a:=.call 9 [.loc 1,.glob 0,.loc 3]) (r:=[.call 9 [.loc 1,.glob 1,.call 8 [.loc 2,.loc 3]]]) (p:=dy gG (first m) m.reverse) (q:=dy far (az m) m.reverse) (cE (vs:=[.str m,.list (eL.map iX),.int (first m)]) rfl ((ti (T:=eL) (k+1) vH.1 vH.2 (Nat.le_of_lt (by assumption))).trans (by rw [C5]))) fun zz=>by
  have b1:=qn (t:=m) (p:=first m) (k+1) (by omega) fl
  have b2:ev (GG (k+2)) [some (.str w),some (.str m),some (.str (m.map kd)),some (.int (first m)),row,none] σ (.call 8 [.loc 2,.loc 3])=some (.int (az m),σ):=cE (vs:=[.str (m.map kd),.int (first m)]) rfl b1
  have:=eo (r:=[]) (q:=false) (cE (G:=GG (k+2)) (σ:=σ) (ρ:=[some (.str w),some (.str m),some (.str (m.map kd)),some (.int (first m)),row,none]) (f:=9) (xs:=[.loc 1,.glob 1,.call 8 [.loc 2,.loc 3]]) (vs:=[.str m,.list (gA.map iX),.int (az m)]) (fG rfl (fG rfl (fG b2 rfl))) ((ti (T:=gA) (k+1) yZ.1 yZ.2 (by have:=kG m;lia)).trans (by rw [Fm]))) fun zz=>rfl
  rw [Bool.or_false] at this;exact this
 refine .ite mv (fun q=>?_) fun q=>.nil (.set rfl ?_)
 ·have:gu (first m) (az m) m.reverse=false:=by
   unfold gu
   cases h1:dy gG (first m) m.reverse with
   | true=>rfl
   | false=>rw [h1,Bool.false_or] at q;rw [q];rfl
  rw [this];exact .ret rfl ⟨rfl,rfl⟩
 ·obtain ⟨h1,h2⟩:=Bool.or_eq_false_iff.mp q
  have ee:gu (first m) (az m) m.reverse=oV (first m) m.reverse:=by unfold gu;rw [h1,h2,← AU];rfl
  rw [ee]
  have:=Dh (G:=GG (k+2)) (n:=aO) (r:=m.reverse) (p:=first m) (σ:=σ) (w:=w) (row:=row) (R:=dN fun v' σ'=>v' = .bool (oV (first m) m.reverse)∧σ'=σ) (by rw [aad];lia) fun ρ=>⟨rfl,rfl⟩
  rw [tρ,aaq,aad] at this
  exact this
end
end Mine
end
section
namespace Mine.Eng
theorem kK {p:Option Nat}{c:Nat}(h:c≠121):mk1 p c=c:=by
 rcases bm p c with e | ⟨e,_⟩
 ·exact e
 ·exact absurd e h
theorem xF {b:Nat} : mk1 (some b) 121=if vow b=true then 89 else 121:=by
 unfold mk1;cases h:vow b<;>simp [h]
theorem Di {p1 x b:Nat}(hb:b=121∨b=89) (h1:x≠121) (h2:x≠89) (h3:x=101→inR p1 [x,b,89] 1=false):bB p1 [x,b,89]=true:=by
 by_cases hs:x=115
 ·subst hs;rcases hb with rfl | rfl<;>rfl
 by_cases hd:x=100
 ·subst hd;rcases hb with rfl | rfl<;>rfl
 rw [d5 hs hd]
 have ing:(rk "ing").isPrefixOf [x,b,89]=false:=by
  show (103==x&&(110==b&&_))=false
  rcases hb with rfl | rfl<;>simp
 rw [ing,if_neg aaj,if_neg (by simp [h1,h2])]
 have e:(rk "e").isPrefixOf [x,b,89]=(101==x):=by show (101==x&&true)=_;rw [Bool.and_true]
 rw [e]
 by_cases he:x=101
 ·rw [h3 he,Bool.and_false];rfl
 ·rw [show (101==x)=false from beq_eq_false_iff_ne.mpr (Ne.symm he)];rfl
theorem xG {a b c:Nat}(ha:vow a=false) (hb:vow b=true) (hc:vow c=true):aZ [a,b,c]=3:=by
 unfold aZ
 simp [List.dropWhile_cons,ha,hb,hc]
theorem lV {t:W}(h:t.length=3):first t=aZ t:=by
 unfold first
 cases q:a8.find? fun f=>f.isPrefixOf t with
 | none=>rfl
 | some f =>
  have l:=of_decide_eq_true (aab.mp iY f (List.mem_of_find?_eq_some q))
  have p:=(aae.mp (List.find?_some (p:=fun f:W=>f.isPrefixOf t) q)).length_le
  lia
theorem oW {a b c:Nat} : gb [a,b,c]=(39==c||(115==c&&39==b)):=by
 show ((39==c&&true)||(115==c&&(39==b&&true)))=_
 rw [Bool.and_true,Bool.and_true]
theorem uL:(aE.all fun e=>decide (4≤e.1.length))=true:=by decide
theorem eG {w:W}(h:w.length=3):aE.lookup w=none:=by
 cases q:aE.lookup w with
 | none=>rfl
 | some t =>
  have z:=of_decide_eq_true (aab.mp uL _ (bX q))
  exact absurd z (by show ¬ 4≤w.length;rw [h];decide)
theorem hd3 {x y z:Nat}(hx:x≠39) (hq:gb [x,y,z]=false):([x,y,z].head?==some 39||gb [x,y,z])=false:=by
 rw [hq,Bool.or_false]
 show (some x==some 39)=false
 rw [beq_eq_false_iff_ne];intro q;obtain rfl:=aaa q;exact hx rfl
theorem no9 {x y z:Nat}(hx:x≠89) (hy:y≠89) (hz:z≠89) (b:Bool):([x,y,z].contains 89&&b)=false:=by
 have:[x,y,z].contains 89=false:=by
  rw [List.contains_cons,List.contains_cons,List.contains_cons,beq_eq_false_iff_ne.mpr (Ne.symm hx),beq_eq_false_iff_ne.mpr (Ne.symm hy),beq_eq_false_iff_ne.mpr (Ne.symm hz)];rfl
 rw [this];rfl
theorem Fx (p1 b a:Nat):bB p1 [105,b,a]=true:=by
 rw [d5 (by decide) (by decide)];rfl
theorem Dj {x y:Nat}(hx:x≠39) (h1:x≠89) (h2:y≠89):ag [x,y,105]=[x,y,105]:=by
 refine gc rfl (eG rfl) (hd3 hx (by rw [oW];rfl)) (no9 h1 h2 (by decide) _) ?_
 show bB _ [mk1 _ 105,_,_]=true
 rw [kK (by decide)];exact Fx _ _ _
theorem Dk {x:Nat}(hv:vow x=true) (h9:x≠89):ag [121,x,121]=[121,x,121]:=by
 refine gc rfl (eG rfl) (hd3 (by decide) (by rw [oW];rfl)) (no9 (by decide) h9 (by decide) _) ?_
 have e:ad [121,x,121]=[89,x,89]:=by
  show [89,mk1 (some 89) x,mk1 (some (mk1 (some 89) x)) 121]=_
  have:mk1 (some 89) x=x:=by
   unfold mk1;rw [if_neg];show ¬ ((x==121&&vow 89)=true);rw [show vow 89=false from rfl,Bool.and_false];exact aaj
  rw [this,xF,if_pos hv]
 rw [e]
 show bB _ [89,x,89]=true
 rw [d5 (by decide) (by decide)]
 show (if false=true then _ else if true=true then vow x else _)=true
 rw [if_neg aaj,if_pos rfl,hv]
theorem AW {x:Nat}(h1:x≠121) (h2:x≠89) (h3:x≠39):ag [121,121,x]=[121,121,x]:=by
 refine gc rfl (eG rfl) (hd3 (by decide) (by rw [oW,beq_eq_false_iff_ne.mpr (Ne.symm h3),show ((39:Nat)==121)=false from rfl,Bool.and_false];rfl)) (no9 (by decide) (by decide) h2 _) ?_
 have e:ad [121,121,x]=[89,121,x]:=by
  show [89,mk1 (some 89) 121,mk1 (some (mk1 (some 89) 121)) x]=_
  rw [xF,if_neg (by decide),kK h1]
 rw [e]
 show bB _ [x,121,89]=true
 refine Di (.inl rfl) h1 h2 fun q=>?_
 rw [q,lV rfl,xG (by decide) (by decide) (by decide)];rfl
theorem Dl {l:W}(h:l.length=3):∃ a b c,l=[a,b,c]:=by
 rcases l with _ | ⟨a,_ | ⟨b,_ | ⟨c,_ | ⟨d,l⟩⟩⟩⟩<;>first | exact ⟨_,_,_,rfl⟩ | cases h
theorem tD {w:W}(h:w.length=3) (hn:ag w≠w) (hl:w.length≤(ag w).length) (h9:w.contains 89=true) (hm:¬ ad w=w):ag (ag w)=ag w:=by
 have h1:=eG h
 obtain ⟨a,b,c,rfl⟩:=Dl h
 have h2:=iM h1 hn
 obtain ⟨q3,e,sm,nl⟩:=iK h1 h2 hl
 obtain ⟨_,a0,_⟩:=gQ nl
 clear nl h1 h2 hn hl h
 have q:a≠39:=fun z=>by rw [z] at q3;injection q3
 have m0:ad [a,b,c]=[mk1 none a,mk1 (some (mk1 none a)) b,mk1 (some (mk1 (some (mk1 none a)) b)) c]:=rfl
 have ca:=bm none a
 have cb:=bm (some (mk1 none a)) b
 have cc:=bm (some (mk1 (some (mk1 none a)) b)) c
 have no:¬ (mk1 none a=a∧mk1 (some (mk1 none a)) b=b∧mk1 (some (mk1 (some (mk1 none a)) b)) c=c):=fun ⟨x,y,z⟩=>hm (by rw [m0,z,y,x])
 have hb9:mk1 none a=89→mk1 (some (mk1 none a)) b=b:=fun z=>by
  rw [z];unfold mk1;rw [if_neg]
  show ¬ ((b==121&&vow 89)=true)
  rw [show vow 89=false from rfl,Bool.and_false];exact aaj
 have e9:(if ((89:Nat)==89)=true then 121 else 89)=121:=rfl
 generalize mk1 (some (mk1 (some (mk1 none a)) b)) c=z at *
 generalize mk1 (some (mk1 none a)) b=y at *
 generalize mk1 none a=x at *
 have st:ag [a,b,c]=(if dz [z,y,x]=true then 105 :: (small [z,y,x]).tail else small [z,y,x]).reverse:=by
  rw [e];unfold eA jR
  dsimp only
  rw [if_neg hm,m0];rfl
 have z39:z≠39:=fun t=>by
  have u:=(oP _).mp a0
  rw [m0,t] at u;injection u
 have s9:∀ t:Nat,(if (t==89)=true then 121 else t)≠89:=fun t u=>by
  split at u
  ·(injection u with hE;cases hE)
  ·rename_i v;exact v (beq_iff_eq.mpr u)
 have s39:(if (x==89)=true then 121 else x)≠39:=fun u=>by
  split at u
  ·(injection u with hE;cases hE)
  ·rcases ca with v | ⟨_,v⟩
   ·exact q (v.symm.trans u)
   ·rw [v] at u;(injection u with hE;cases hE)
 cases hcc:dz [z,y,x] with
 | true =>
  rw [hcc,if_pos rfl] at st
  rw [st]
  exact Dj s39 (s9 x) (s9 y)
 | false =>
  rw [hcc,if_neg aaj] at st
  have st:ag [a,b,c]=[if (x==89)=true then 121 else x,if (y==89)=true then 121 else y,if (z==89)=true then 121 else z]:=st
  have h9:a=89∨b=89∨c=89:=by
   have:=aak.mp h9
   simp only [List.mem_cons,List.not_mem_nil,or_false] at this
   exact this.imp Eq.symm (Or.imp Eq.symm Eq.symm)
  have hcc:((z==121||z==89)&&!vow y)=false:=hcc
  by_cases z3:z=121∨z=89
  ·have vy:vow y=true:=by
    have:(z==121||z==89)=true:=by rcases z3 with rfl | rfl<;>rfl
    rw [this,Bool.true_and] at hcc
    cases vq:vow y with
    | true=>rfl
    | false=>rw [vq] at hcc;injection hcc
   have y9:y≠89:=fun t=>by rw [t] at vy;injection vy
   have eb:y=b:=cb.resolve_right fun t=>y9 t.2
   have x9:x=89:=by
    rcases h9 with t | t | t
    ·rcases ca with u | ⟨_,u⟩
     ·exact u.trans t
     ·exact u
    ·exact absurd (eb.trans t) y9
    ·rcases ca with u | ⟨_,u⟩
     ·rcases cc with v | ⟨v,_⟩
      ·exact absurd ⟨u,eb,v⟩ no
      ·rw [v] at t;cases t
     ·exact u
   have ez:(if (z==89)=true then 121 else z)=121:=by rcases z3 with rfl | rfl<;>rfl
   rw [st,x9,ez,e9,if_neg (by rw [beq_iff_eq];exact y9)]
   exact Dk vy y9
  ·have z1:z≠121:=fun t=>z3 (.inl t)
   have z9:z≠89:=fun t=>z3 (.inr t)
   have ec:z=c:=cc.resolve_right fun t=>z9 t.2
   have both:x=89∧y=89:=by
    rcases h9 with t | t | t
    ·have u:x=89:=by
      rcases ca with u | ⟨_,u⟩
      ·exact u.trans t
      ·exact u
     exact absurd ⟨u.trans t.symm,hb9 u,ec⟩ no
    ·have u:y=89:=by
      rcases cb with u | ⟨_,u⟩
      ·exact u.trans t
      ·exact u
     rcases ca with v | ⟨_,v⟩
     ·exact absurd ⟨v,u.trans t.symm,ec⟩ no
     ·exact ⟨v,u⟩
    ·exact absurd (ec.trans t) z9
   rw [st,both.1,both.2,e9,if_neg (by rw [beq_iff_eq];exact z9)]
   exact AW z1 z9 z39
theorem vQ:∀ (n:Nat) (w:W),w.length≤n→loop (w.length - 2+1+if 3<w.length then 1 else 0) w=true
 | 0,w,hl=>by rw [if_neg (by omega)];exact cP (dA (Nat.lt_of_le_of_lt (by assumption) (by decide)))
 | n+1,w,hl=>by
  by_cases hf:ag w=w
  ·exact bz (by omega) (cP (n:=0) hf)
  cases h9:w.contains 89 with
  | false=>exact bz (Nat.le_add_right _ _) (iN _ w (Nat.le_refl _) h9)
  | true =>
  have h3:3≤w.length:=Nat.le_of_not_lt fun z=>hf (dA z)
  have h1:aE.lookup w=none:=by
   cases h1:aE.lookup w with
   | none=>rfl
   | some t =>
    have z:(aE.all fun e=>!e.1.contains 89)=true:=by decide
    have z:=aab.mp z _ (bX h1)
    have z:(!w.contains 89)=true:=z
    rw [h9] at z;injection z
  have h2:=iM h1 hf
  have go:loop (w.length - 2+if 3<w.length then 1 else 0) (ag w)=true:=by
   rcases Nat.lt_or_ge (ag w).length w.length with hs | hs
   ·rcases Nat.lt_or_ge (ag w).length 3 with h4 | h4
    ·exact bz (by omega) (cP (n:=0) (dA h4))
    ·have ih:=vQ n (ag w) (by lia)
     rw [if_pos (by omega:3<w.length)]
     exact bz (by split<;>omega) ih
   ·by_cases hm:ad w=w
    ·exact bz (by omega) (cP (n:=0) (jS h1 h2 hf hs (.inl hm)))
    ·by_cases h4:w.length=3
     ·exact bz (by omega) (cP (n:=0) (tD h4 hf hs h9 hm))
     ·rw [if_pos (by omega:3<w.length)]
      have k:(ag w).contains 89=false:=by
       rw [(iK h1 h2 hs).2.1]
       cases q:(eA w).contains 89 with
       | false=>rfl
       | true =>
        exfalso
        have q:=List.mem_reverse.mp (aak.mp q)
        have nc:89∈small (ad w).reverse→False:=fun z=>by
         have:=mS (t:=(ad w).reverse)
         rw [aak.mpr z] at this;injection this
        unfold jR at q
        dsimp only at q
        rw [if_neg hm] at q
        split at q
        ·rcases List.mem_cons.mp q with t | t
         ·cases t
         ·exact nc (List.mem_of_mem_tail t)
        ·exact nc q
      exact bz (by have:=pT w;omega) (iN _ (ag w) (Nat.le_refl _) k)
  exact bz (by omega) (qr go)
theorem AX (w:W):loop (w.length - (if (w.contains 89&&decide (3<w.length))=true then 1 else 2)+1) w=true:=by
 cases h9:w.contains 89 with
 | false=>exact bz (by rw [Bool.false_and,if_neg aaj];exact Nat.le_refl _) (iN _ w (Nat.le_refl _) h9)
 | true =>
  have z:=vQ _ w (Nat.le_refl _)
  rw [Bool.true_and]
  by_cases h:3<w.length
  ·rw [if_pos h] at z;rw [if_pos (decide_eq_true h)]
   exact bz (by omega) z
  ·rw [if_neg h] at z;rw [if_neg (by rw [decide_eq_false h];exact aaj)]
   exact bz (Nat.le_refl _) z
theorem fh {p k:Nat}{r:W}(h:r.length - k<p):inR p r k=false:=decide_eq_false (Nat.not_le.mpr h)
noncomputable def Fy:Act→Bool | .li=>true | _=>false
theorem Dm:(t2.all fun e=>decide (3≤e.1.length)||Fy e.2)=true:=by decide
theorem Dn:(t3.all fun e=>decide (3≤e.1.length))=true:=by decide
theorem vR {p1:Nat}{r:W}(hp:2≤p1) (hl:r.length≤4):aS p1 r=r∨(aS p1 r).length≤2:=by
 unfold aS
 cases h:ae t2 r with
 | none=>exact .inl rfl
 | some e =>
  obtain ⟨s,a⟩:=e
  have z:=aab.mp Dm _ (aa h).1
  show (if inR p1 r s.length=true then _ else r)=r∨(if inR p1 r s.length=true then _ else r).length≤2
  by_cases k:3≤s.length
  ·rw [fh (by omega),if_neg aaj];exact .inl rfl
  ·have z:(decide (3≤s.length)||Fy a)=true:=z
   rw [decide_eq_false k,Bool.false_or] at z
   cases a with
   | to t=>injection z
   | ogi=>injection z
   | li =>
    split
    ·show (if _ then r.drop 2 else r)=r∨(if _ then r.drop 2 else r).length≤2
     split
     ·exact .inr (by rw [aal];omega)
     ·exact .inl rfl
    ·exact .inl rfl
theorem Do {p1 p2:Nat}{r:W}(hp:2≤p1) (hl:r.length≤4):bc p1 p2 r=r:=by
 unfold bc
 cases h:ae t3 r with
 | none=>rfl
 | some e =>
  obtain ⟨s,two,t⟩:=e
  have z:3≤s.length:=of_decide_eq_true (aab.mp Dn _ (aa h).1)
  show (if (inR p1 r s.length&&_)=true then _ else r)=r
  rw [fh (by omega),Bool.false_and,if_neg aaj]
theorem Dp {p2:Nat}{r:W}(hp:r.length≤p2) (hl:0<p2):bp p2 r=r:=by
 unfold bp
 cases h:ae t4 r with
 | none=>rfl
 | some e =>
  obtain ⟨s,b⟩:=e
  have z:0<s.length:=n9 _ (aa h).1
  show (if (inR p2 r s.length&&_)=true then _ else r)=r
  rw [fh (by omega),Bool.false_and,if_neg aaj]
theorem Dq {p1 p2:Nat}{r:W}(hp:r.length≤p2) (hl:0<p2):bT p1 p2 r=r∨∃ q,r=101 :: q∧bT p1 p2 r=q∧inR p1 r 1=true∧aF q=false:=by
 match r,hp with
 | [],_=>exact .inl rfl
 | c :: q,hp =>
  have n2:inR p2 (c :: q) 1=false:=fh (by assumption)
  by_cases h:c=101
  ·subst h
   show (if (inR p2 (101 :: q) 1||(inR p1 (101 :: q) 1&&!aF q))=true then q else 101 :: q)=_∨∃ q',101 :: q=101 :: q'∧(if (inR p2 (101 :: q) 1||(inR p1 (101 :: q) 1&&!aF q))=true then q else 101 :: q)=q'∧inR p1 (101 :: q) 1=true∧aF q'=false
   rw [n2,Bool.false_or]
   cases h1:inR p1 (101 :: q) 1 with
   | false=>exact .inl (by rw [Bool.false_and,if_neg aaj])
   | true =>
    cases h2:aF q with
    | true=>exact .inl (by rw [if_neg (by decide)])
    | false=>exact .inr ⟨q,rfl,rfl,rfl,h2⟩
  ·left
   apply (AK _ _ _).mpr
   rw [qo,jQ h,Bool.or_false]
   unfold fX
   split
   ·rename_i e;exact absurd (List.cons.inj e).1 h
   ·rw [n2];rfl
   ·rfl
theorem zj {p1:Nat}{r:W}(hp:2≤p1) (hl:r.length≤4) :
 bT p1 4 (bp 4 (bc p1 4 (aS p1 r)))=r∨(bT p1 4 (bp 4 (bc p1 4 (aS p1 r)))).length≤2 ∨
  ∃ q,r=101 :: q∧bT p1 4 (bp 4 (bc p1 4 (aS p1 r)))=q∧inR p1 r 1=true∧aF q=false:=by
 rcases vR hp hl with h | h
 ·rw [h,Do hp hl,Dp hl (by decide)]
  rcases Dq (p1:=p1) (p2:=4) hl (by decide) with z | z
  ·exact .inl z
  ·exact .inr (.inr z)
 ·refine .inr (.inl ?_)
  exact aaf (oh _ _ _).le (aaf (lD _ _).le (aaf (lC _ _ _).le h))
theorem cg {a b:Nat}{k q:W}(h:(a :: k) <+: (b :: q)):a=b∧k <+: q:=List.cons_prefix_cons.mp h
theorem AY (d c b a:Nat):a9 [d,c,b,a]=[d,c,b,a]∨(a9 [d,c,b,a]).length≤2∨(a9 [d,c,b,a]=[c,b,a]∧c≠115):=by
 unfold a9
 cases h:ae t1a [d,c,b,a] with
 | none=>exact .inl rfl
 | some e =>
  obtain ⟨hm,hp⟩:=aa h
  simp only [t1a,gC,List.map_cons,List.map_nil,List.mem_cons,List.not_mem_nil,or_false] at hm
  rcases hm with rfl | rfl | rfl | rfl | rfl | rfl
  ·exact .inr (.inr ⟨rfl,fun t=>by
    have:(101:Nat)=c:=(cg (cg hp).2).1
    rw [t] at this;cases this⟩)
  ·show (if ([b,a]:W).any vow=true then [c,b,a] else [d,c,b,a])=_∨(if ([b,a]:W).any vow=true then [c,b,a] else [d,c,b,a]).length≤2∨((if ([b,a]:W).any vow=true then [c,b,a] else [d,c,b,a])=_∧_)
   split
   ·refine .inr (.inr ⟨rfl,fun t=>?_⟩)
    have d1:(115:Nat)=d:=(cg hp).1
    obtain ⟨f,hf,lf⟩:=bF (l:=t1a) (r:=[d,c,b,a]) (f:=(rk "ss",0)) (by decide) (by rw [← d1,t];exact ⟨[b,a],rfl⟩)
    rw [h] at hf
    rw [← aaa hf] at lf
    exact absurd lf (by decide)
   ·exact .inl rfl
  ·exact .inr (.inr ⟨rfl,fun t=>by
    have:(101:Nat)=c:=(cg (cg hp).2).1
    rw [t] at this;cases this⟩)
  ·exact .inr (.inl (Nat.le_refl 2))
  ·exact .inl rfl
  ·exact .inl rfl
theorem Dr {b a:Nat}(h:([b,a]:W).any vow=true) (hb:vow b=false):vow a=true:=by
 have h:(vow b||(vow a||false))=true:=h
 rwa [hb,Bool.false_or,Bool.or_false] at h
theorem mM {p1 b a:Nat}(h:([b,a]:W).any vow=true):(gE p1 [b,a]).length≤2∨(gE p1 [b,a]=[101,b,a]∧vow a=true∧vow b=false):=by
 have g:∀ q:Bool,(q=true→vow b=false)→(if q=true then 101 :: [b,a] else if jf.any (fun s=>s.isPrefixOf [b,a])=true then ([b,a]:W).drop 1 else if ([b,a].length=p1&&aF [b,a])=true then 101 :: [b,a] else [b,a]).length≤2∨((if q=true then 101 :: [b,a] else if jf.any (fun s=>s.isPrefixOf [b,a])=true then ([b,a]:W).drop 1 else if ([b,a].length=p1&&aF [b,a])=true then 101 :: [b,a] else [b,a])=[101,b,a]∧vow a=true∧vow b=false):=fun q hq=>by
  cases q with
  | true=>exact .inr ⟨rfl,Dr h (hq rfl),hq rfl⟩
  | false =>
   rw [if_neg aaj]
   split
   ·exact .inl (Nat.le_succ 1)
   ·cases k:(decide ([b,a].length=p1)&&aF [b,a]) with
    | false=>exact .inl (Nat.le_refl 2)
    | true =>
     have k:=(aac.mp k).2
     have k:(false||(!vow b&&vow a)||(116==b&&(115==a&&false)))=true:=k
     rw [Bool.and_false,Bool.and_false,Bool.or_false,Bool.false_or] at k
     have k:=aac.mp k
     refine .inr ⟨rfl,k.2,?_⟩
     cases z:vow b with
     | false=>rfl
     | true=>rw [z] at k;exact absurd k.1 (by decide)
 unfold gE
 refine g _ fun q=>?_
 obtain ⟨s,hs,hq⟩:=List.any_eq_true.mp q
 have hq:=(pS (k:=rk s) (r:=[b,a])).mp hq 0
 simp only [List.mem_cons,List.not_mem_nil,or_false] at hs
 rcases hs with rfl | rfl | rfl
 ·have:some b=some 116:=hq (by decide)
  rw [aaa this];rfl
 ·have:some b=some 108:=hq (by decide)
  rw [aaa this];rfl
 ·have:some b=some 122:=hq (by decide)
  rw [aaa this];rfl
theorem AZ {p1 d c b a:Nat}(hp:2≤p1):aY p1 [d,c,b,a]=[d,c,b,a]∨(aY p1 [d,c,b,a]).length≤2∨(aY p1 [d,c,b,a]=[101,b,a]∧vow a=true∧vow b=false):=by
 unfold aY
 cases h:ae t1b [d,c,b,a] with
 | none=>exact .inl rfl
 | some e =>
  obtain ⟨hm,hpr⟩:=aa h
  simp only [t1b,gC,List.map_cons,List.map_nil,List.mem_cons,List.not_mem_nil,or_false] at hm
  have five:∀ {k:W},k <+: [d,c,b,a]→4<k.length→False:=fun x y=>absurd x.length_le (Nat.not_le.mpr y)
  have eed:∀ x:W,(if (inR p1 [d,c,b,a] 3&&!(["succ","proc","exc"].map rk).contains ([d,c,b,a].drop 3))=true then x else [d,c,b,a])=[d,c,b,a]:=fun x=>by
   rw [fh (show [d,c,b,a].length - 3<p1 from Nat.lt_of_lt_of_le (Nat.lt_succ_self 1) hp),Bool.false_and,if_neg aaj]
  rcases hm with rfl | rfl | rfl | rfl | rfl | rfl
  ·show bL p1 2 [d,c,b,a]=_∨(bL p1 2 [d,c,b,a]).length≤2∨(bL p1 2 [d,c,b,a]=_∧_)
   unfold bL
   by_cases k:([d,c,b,a].drop 2).any vow=true
   ·rw [if_pos k];exact .inr (mM k)
   ·rw [if_neg k];exact .inl rfl
  ·exact .inl (eed _)
  ·have ing:∀ X:W,(X=[d,c,b,a]∨X=bL p1 3 [d,c,b,a])→X=[d,c,b,a]∨X.length≤2∨(X=[101,b,a]∧vow a=true∧vow b=false):=fun X hX=>by
    rcases hX with rfl | rfl
    ·exact .inl rfl
    ·unfold bL
     split
     ·exact .inr (.inl (pK p1 [a]))
     ·exact .inl rfl
   apply ing
   split
   ·rename_i e;nomatch congrArg (fun o=>o.map Prod.snd) e
   ·rename_i e;nomatch congrArg (fun o=>o.map Prod.snd) e
   ·split
    ·exact .inl rfl
    ·split
     ·rename_i q
      exact absurd (congrArg List.length q) (by show ¬ (1=2);decide)
     ·exact .inr rfl
   ·exact .inl rfl
  ·exact .inl rfl
  ·exact absurd (five hpr (by decide)) id
  ·exact absurd (five hpr (by decide)) id
theorem zk (z y x:Nat):dz (ao [z,y,x])=false:=by
 rw [fg]
 cases h:dz [z,y,x] with
 | true=>rfl
 | false=>exact h
theorem xH {p1 a b c d:Nat}(hp:2≤p1) (h0:aU [d,c,b,a]=[d,c,b,a]) (h3:(aR p1 4 [d,c,b,a]).length=3) :
 (∃ z,aR p1 4 [d,c,b,a]=[z,b,a]∧(z=c∨z=105∨z=101)∧z≠115∧cH p1 [z,b,a]=false∧dz [z,b,a]=false) ∨
  (d=101∧aR p1 4 [d,c,b,a]=[c,b,a]∧inR p1 [d,c,b,a] 1=true∧aF [c,b,a]=false):=by
 unfold aR at h3 ⊢
 rw [h0] at h3 ⊢
 generalize hF:ao (aY p1 (a9 [d,c,b,a]))=F at h3 ⊢
 have small2:∀ {X:W},X.length≤2→(bT p1 4 (bp 4 (bc p1 4 (aS p1 X)))).length≤2:=fun h =>
  aaf (oh _ _ _).le (aaf (lD _ _).le (aaf (lC _ _ _).le (by
   rcases vR hp (aaf h (by decide)) with z | z
   ·rw [z];exact h
   ·exact z)))
 have no2:F.length≤2→False:=fun h=>by have:=small2 h;lia
 have iD:∀ z,F=[z,b,a]→bT p1 4 (bp 4 (bc p1 4 (aS p1 F)))=[z,b,a]:=fun z hz=>by
  rw [hz] at h3 ⊢
  rcases zj (r:=[z,b,a]) hp (Nat.le_succ 3) with k | k | ⟨q,e,k,_⟩
  ·exact k
  ·lia
  ·rw [k,← (List.cons.inj e).2] at h3;(injection h3 with hE;cases hE)
 rcases AY d c b a with h | h | ⟨h,hc⟩
 ·rw [h] at hF
  rcases AZ (d:=d) (c:=c) (b:=b) (a:=a) hp with k | k | ⟨k,ha,hb⟩
  ·rw [k] at hF
   have lF:F.length=4:=by rw [← hF,iF];rfl
   rcases zj (r:=F) hp (by lia) with k | k | ⟨q,e,k,i1,i2⟩
   ·rw [k] at h3;lia
   ·omega
   ·right
    rw [e,fg] at hF
    split at hF
    ·nomatch (List.cons.inj hF).1
    ·rw [k]
     have e1:=(List.cons.inj hF).1
     have e2:=(List.cons.inj hF).2
     subst e1
     rw [← e2] at i2 ⊢
     rw [e,← e2] at i1
     exact ⟨rfl,rfl,i1,i2⟩
  ·exact (no2 (by rw [← hF,iF];exact k)).elim
  ·rw [k] at hF
   left
   exact ⟨101,iD 101 hF.symm,.inr (.inr rfl),by decide,g8 (by decide),rfl⟩
 ·exact (no2 (by rw [← hF,iF];exact aaf (jg _ _).le h)).elim
 ·rw [h] at hF
  rcases jg p1 [c,b,a] with k | k
  ·rw [k] at hF
   have g:=zk c b a
   rw [fg] at hF g
   left
   cases q:dz [c,b,a] with
   | true =>
    rw [q] at hF
    exact ⟨105,iD 105 hF.symm,.inr (.inl rfl),by decide,g8 (by decide),rfl⟩
   | false =>
    rw [q] at hF
    exact ⟨c,iD c hF.symm,.inl rfl,hc,(qR _ _).mp k,q⟩
  ·exact (no2 (by rw [← hF,iF];exact Nat.le_of_lt_succ k)).elim
theorem Fz {p p':Nat}{r:W}(h:1≤p) (h':1≤p') (hl:r.length=3):cH p r=cH p' r:=by
 unfold cH
 cases q:ae t1b r with
 | none=>rfl
 | some e =>
  obtain ⟨s,k⟩:=e
  have tw:=em _ (aa q).1
  match k,tw with
  | 0,_=>rfl
  | 1,tw =>
   have z:3≤s.length:=tw.2.1 rfl
   show (inR p r s.length&&_)=(inR p' r s.length&&_)
   rw [fh (by omega),fh (by omega)]
  | 2,_=>rfl
  | 3,_=>rfl
  | _+4,_=>rfl
theorem A0 {a b:Nat}(h:¬ (vow a=true∧vow b=false)):aZ [a,b,101]=3:=by
 unfold aZ
 cases ha:vow a<;>cases hb:vow b<;>simp [ha,hb,show vow 101=true from rfl] at h ⊢
theorem Ds {b a:Nat}(ha:vow a=true) (hb:vow b=false):aF [b,a]=true:=by
 show (false||(!vow b&&vow a)||_)=true
 rw [ha,hb];rfl
theorem oX {p a b z:Nat}(hp:1≤p) (h1:z≠115) (h2:cH p [z,b,a]=false) (h3:dz [z,b,a]=false):bB (first [a,b,z]) [z,b,a]=true:=by
 have f2:=d6 [a,b,z] (Nat.le_succ 2)
 have e:=vL (first [a,b,z]) [z,b,a] (Nat.le_refl 3)
 have ca:eX [z,b,a]=false:=by
  by_cases h:z=100
  ·subst h
   cases q:ae t1a [100,b,a] with
   | none=>unfold eX;rw [q]
   | some e =>
    exfalso
    obtain ⟨hm,hpr⟩:=aa q
    have all:(t1a.all fun e=>(e.1.head?==some 115)||e.1==[100,101,105])=true:=by decide
    have z:=aab.mp all _ hm
    rcases Bool.or_eq_true_iff.mp z with z | z
    ·match hk:e.1,hpr with
     | [],_=>rw [hk] at z;injection z
     | c :: k,hpr =>
      rw [hk] at z
      have t:some c=some 115:=eq_of_beq z
      rw [(cg hpr).1] at t;(injection t with hE;cases hE)
    ·rw [eq_of_beq z] at hpr
     have y:=cg (cg hpr).2
     rw [← y.1,← (cg y.2).1] at h2
     injection h2
  ·exact g7 (by simp [h,h1])
 have ce:e5 (first [a,b,z]) [z,b,a]=false:=by
  by_cases h:z=101
  ·subst h
   show (inR (first [a,b,101]) [101,b,a] 1&&!aF [b,a])=false
   by_cases k:vow a=true∧vow b=false
   ·rw [Ds k.1 k.2,Bool.not_true,Bool.and_false]
   ·rw [lV rfl,A0 k];rfl
  ·exact jQ h
 have ch:chg (first [a,b,z]) [z,b,a]=false:=by
  unfold chg
  rw [ca,Fz (aaf (by decide) f2) hp rfl,h2,h3,ce];rfl
 rw [ch] at e
 cases k:bB (first [a,b,z]) [z,b,a] with
 | true=>rfl
 | false=>rw [k] at e;injection e
noncomputable def due (w:W):List W :=
 if ([ks "only",ks "ugly"].contains w)=true then [w.take 3++[105],w.take 2]
 else if ([97,101,105,111,117].contains (w.getD 0 0)&&(!([115,117].contains (w.getD 1 0))&&w.drop 2==[115,101]))=true then [w.take 3,w.take 2]
 else if ([ks "aede",ks "oede",ks "uede"].contains w)=true then [w.take 3,w.take 1]
 else if (w==ks "iede")=true then [ks "ied",ks "ie"]
 else if ([97,101,105,111,117].contains (w.getD 0 0)&&(!([97,101,105,111,117].contains (w.getD 1 0))&&w.drop 2==[121,101]))=true then [w.take 3,w.take 2++[105]]
 else []
noncomputable def chk (w:W):Bool:=[ag w,ag (ag w)]==due w||due w==[]
theorem Hg:([97,101,105,111,117].all fun a=>(List.range' 97 26).all fun b=>chk [a,b,115,101])=true:=by decide +kernel
theorem Hh:([97,101,105,111,117].all fun a=>(List.range' 97 26).all fun b=>chk [a,b,121,101])=true:=by decide +kernel
theorem A3 {a b c d:Nat}(hb:97≤b∧b≤122) (h:due [a,b,c,d]≠[]):chk [a,b,c,d]=true:=by
 have mb:b∈List.range' 97 26:=by
  rw [List.mem_range'_1];lia
 have c3:∀ {l:List String},(l.all fun w=>chk (ks w))=true→∀ w:W,(l.map ks).contains w=true→chk w=true:=fun hl w hw=>by
  obtain ⟨s,hs,e⟩:=List.mem_map.mp (aak.mp hw)
  rw [← e];exact aab.mp hl s hs
 unfold due at h
 split at h
 ·rename_i k
  exact c3 (l:=["only","ugly"]) (by decide +kernel) _ k
 split at h
 ·rename_i k
  have k1:=aac.mp k
  have k2:=aac.mp k1.2
  have e:[c,d]=[115,101]:=eq_of_beq k2.2
  cases e
  exact aab.mp (aab.mp Hg a (aak.mp k1.1)) b mb
 split at h
 ·rename_i k
  exact c3 (l:=["aede","oede","uede"]) (by decide +kernel) _ k
 split at h
 ·rename_i k
  rw [eq_of_beq k];decide +kernel
 split at h
 ·rename_i k
  have k1:=aac.mp k
  have k2:=aac.mp k1.2
  have e:[c,d]=[121,101]:=eq_of_beq k2.2
  cases e
  exact aab.mp (aab.mp Hh a (aak.mp k1.1)) b mb
 ·exact absurd rfl h
theorem A4:(aE.all fun e=>!decide (e.1.length=4)||(chk e.1&&(ag (ag e.1)==ag e.1||!(due e.1==[]))))=true:=by decide +kernel
theorem lW {t:W}(h:t.length=4):az t=4:=by
 have a:=d6 t (by omega)
 have b:=mT t
 unfold az
 rcases Nat.lt_or_ge (first t) 3 with z | z
 ·have e:first t=2:=by lia
  rw [e]
  have l:(t.drop 2).length=2:=by rw [aal];omega
  have x:=oS (t.drop 2) (by lia)
  have y:aZ (t.drop 2)≤(t.drop 2).length:=Nat.sub_le _ _
  lia
 rcases Nat.lt_or_ge (first t) 4 with z | z
 ·have e:first t=3:=by omega
  rw [e]
  have:(t.drop 3).length=1:=by rw [aal];omega
  obtain ⟨x,hx⟩:=List.length_eq_one_iff.mp this
  rw [hx,gR]
 ·have e:first t=4:=by omega
  rw [e]
  have:t.drop 4=[]:=List.drop_eq_nil_of_le (by omega)
  rw [this];rfl
theorem xI {w:W}(h1:aE.lookup w=none) (h2:(kept.contains w||decide (w.length<3))=false) (h3:(w.head?==some 39)=false) (h9:w.contains 89=false):ag w=small (aR (first (ad w)) (az (ad w)) (ad w).reverse).reverse:=by
 rw [fc h1 h2,unq h3]
 dsimp only
 split
 ·rename_i e
  symm
  apply fY
  cases q:(aR (first (ad w)) (az (ad w)) (ad w).reverse).reverse.contains 89 with
  | false=>rfl
  | true =>
   have z:=lS (List.mem_reverse.mp (aak.mp q))
   rw [e] at z
   rw [aak.mpr (List.mem_reverse.mp z)] at h9;injection h9
 ·rfl
theorem Dt {w:W}(h:due w=[]):([97,101,105,111,117].contains (w.getD 0 0)&&(!([115,117].contains (w.getD 1 0))&&w.drop 2==[115,101]))=false∧([ks "aede",ks "oede",ks "uede"].contains w)=false∧(w==ks "iede")=false∧([97,101,105,111,117].contains (w.getD 0 0)&&(!([97,101,105,111,117].contains (w.getD 1 0))&&w.drop 2==[121,101]))=false:=by
 unfold due at h
 split at h
 ·injection h
 split at h
 ·injection h
 split at h
 ·injection h
 split at h
 ·injection h
 split at h
 ·injection h
 rename_i a b c d
 exact ⟨Bool.eq_false_iff.mpr a,Bool.eq_false_iff.mpr b,Bool.eq_false_iff.mpr c,Bool.eq_false_iff.mpr d⟩
noncomputable def sm (c:Nat):Nat:=if c==89 then 121 else c
theorem tE {p:Option Nat}{c:Nat}(h:c≠89):sm (mk1 p c)=c:=by
 rcases bm p c with e | ⟨e,k⟩
 ·rw [e];exact if_neg (by rw [beq_iff_eq];exact h)
 ·rw [k,e];rfl
theorem xJ {a:Nat}(h:vow (mk1 none a)=true):[97,101,105,111,117].contains a=true∧mk1 none a=a:=by
 rcases bm none a with e | ⟨e,k⟩
 ·by_cases q:a=121
  ·rw [q] at h;injection h
  ·rw [e] at h
   refine ⟨?_,e⟩
   have s:vow a=([97,101,105,111,117].contains a||([121]:List Nat).contains a):=List.contains_append (l₁:=[97,101,105,111,117]) (l₂:=[121])
   have n:([121]:List Nat).contains a=false:=by rw [List.contains_cons,beq_eq_false_iff_ne.mpr q];rfl
   rw [s,n,Bool.or_false] at h;exact h
 ·rw [k] at h;injection h
theorem A5 {a b c:Nat}{x y z:Nat}(h9:b≠89∧c≠89) (hx:mk1 none a=x) (hy:mk1 (some x) b=y) (hz:mk1 (some y) c=z) (hd:due [a,b,c,101]=[]) (hi:inR (first [x,y,z,101]) [101,z,y,x] 1=true):bB (first [x,y,z]) [z,y,x]=true:=by
 obtain ⟨d1,d2,d3,d4⟩:=Dt hd
 have f2:2≤first [x,y,z,101]:=d6 _ (Nat.le_add_left 2 2)
 by_cases h1:z=115
 ·have hc:c=115:=by
   rcases bm (some y) c with e | ⟨e,k⟩
   ·rw [← e,hz,h1]
   ·rw [hz,h1] at k;(injection k with hE;cases hE)
  subst hc;subst h1
  show (if ((117==y&&true)||(115==y&&true))=true then true else if true=true then !(101==y&&(115==x&&false))&&!(vow x||false) else _)=true
  rw [Bool.and_true,Bool.and_true,Bool.and_false,Bool.and_false,Bool.or_false,if_pos rfl]
  split
  ·rfl
  ·rename_i k
   cases v:vow x with
   | false=>rfl
   | true =>
    exfalso
    rw [← hx] at v
    have yb:mk1 (some x) b=b:=by
     rcases bm (some x) b with e | ⟨e,q⟩
     ·exact e
     ·have d1:([97,101,105,111,117].contains a&&(!([115,117].contains b)&&true))=false:=d1
      rw [(xJ v).1,e] at d1;injection d1
    have d1:([97,101,105,111,117].contains a&&(!([115,117].contains b)&&true))=false:=d1
    rw [(xJ v).1,Bool.true_and,Bool.and_true] at d1
    rw [yb] at hy
    subst hy
    apply k
    have e:([115,117].contains b)=true:=by
     cases t:([115,117].contains b) with
     | true=>rfl
     | false=>rw [t] at d1;injection d1
    have:=aak.mp e
    simp only [List.mem_cons,List.not_mem_nil,or_false] at this
    rcases this with rfl | rfl<;>rfl
 ·cases h2:cH (first [x,y,z,101]) [z,y,x] with
  | false =>
   cases h3:dz [z,y,x] with
   | false=>exact oX (aaf (by decide) f2) h1 h2 h3
   | true =>
    exfalso
    have h3:((z==121||z==89)&&!vow y)=true:=h3
    have h3:=aac.mp h3
    have vy:vow y=false:=by
     cases t:vow y with
     | false=>rfl
     | true=>rw [t] at h3;exact absurd h3.2 (by decide)
    have hz1:z=121∧c=121:=by
     rcases bm (some y) c with e | ⟨e,k⟩
     ·have zc:z=c:=hz.symm.trans e
      rcases Bool.or_eq_true_iff.mp h3.1 with t | t
      ·exact ⟨eq_of_beq t,zc.symm.trans (eq_of_beq t)⟩
      ·exact absurd (zc.symm.trans (eq_of_beq t)) h9.2
     ·rw [e,xF,vy,if_neg aaj] at k;(injection k with hE;cases hE)
    obtain ⟨hz1,hc⟩:=hz1
    subst hz1;subst hc
    by_cases v:vow x=true
    ·rw [← hx] at v
     have d4:([97,101,105,111,117].contains a&&(!([97,101,105,111,117].contains b)&&true))=false:=d4
     rw [(xJ v).1,Bool.true_and,Bool.and_true] at d4
     have mb:([97,101,105,111,117].contains b)=true:=by
      cases t:([97,101,105,111,117].contains b) with
      | true=>rfl
      | false=>rw [t] at d4;injection d4
     have vb:vow b=true∧b≠121:=by
      have:=aak.mp mb
      simp only [List.mem_cons,List.not_mem_nil,or_false] at this
      rcases this with rfl | rfl | rfl | rfl | rfl<;>decide
     rw [kK vb.2] at hy
     rw [← hy,vb.1] at vy;injection vy
    ·have vx:vow x=false:=Bool.eq_false_iff.mpr v
     have f4:first [x,y,121,101]=4:=by
      unfold first
      cases q:a8.find? fun f=>f.isPrefixOf [x,y,121,101] with
      | some f =>
       have l:4≤f.length:=of_decide_eq_true (aab.mp iY f (List.mem_of_find?_eq_some q))
       have l':=(aae.mp (List.find?_some (p:=fun f:W=>f.isPrefixOf [x,y,121,101]) q)).length_le
       have l':f.length≤4:=l'
       show f.length=4
       lia
      | none =>
       show aZ _=4
       unfold aZ
       simp [vx,vy,show vow 121=true from rfl,show vow 101=true from rfl]
     rw [f4] at hi;injection hi
  | true =>
   exfalso
   unfold cH at h2
   cases q:ae t1b [z,y,x] with
   | none=>rw [q] at h2;injection h2
   | some e =>
    obtain ⟨hm,hp⟩:=aa q
    rw [q] at h2
    have lk:=hp.length_le
    simp only [t1b,gC,List.map_cons,List.map_nil,List.mem_cons,List.not_mem_nil,or_false] at hm
    rcases hm with rfl | rfl | rfl | rfl | rfl | rfl
    ·have e1:(100:Nat)=z:=(cg hp).1
     have e2:(101:Nat)=y:=(cg (cg hp).2).1
     have v:(vow x||false)=true:=h2
     rw [Bool.or_false] at v
     have x1:x≠101:=fun t=>by
      obtain ⟨f,hf,lf⟩:=bF (l:=t1b) (r:=[z,y,x]) (f:=(rk "eed",1)) (by decide) (by rw [← e1,← e2,t];exact ⟨[],rfl⟩)
      rw [q] at hf
      rw [← aaa hf] at lf
      exact absurd lf (by decide)
     rw [← hx] at v
     have va:=xJ v
     have ax:a=x:=va.2.symm.trans hx
     have eb:b=101:=by
      rcases bm (some x) b with t | ⟨_,t⟩
      ·rw [← t,hy,← e2]
      ·rw [hy,← e2] at t;cases t
     have ec:c=100:=by
      rcases bm (some y) c with t | ⟨_,t⟩
      ·rw [← t,hz,← e1]
      ·rw [hz,← e1] at t;cases t
     rw [eb,ec] at d2 d3
     have:=aak.mp va.1
     simp only [List.mem_cons,List.not_mem_nil,or_false] at this
     rcases this with t | t | t | t | t
     ·rw [t] at d2;injection d2
     ·exact x1 (ax.symm.trans t)
     ·rw [t] at d3;injection d3
     ·rw [t] at d2;injection d2
     ·rw [t] at d2;injection d2
    ·have h2:(inR (first [x,y,z,101]) [z,y,x] 3&&_)=true:=h2
     rw [fh (show [z,y,x].length - 3<_ from Nat.lt_of_lt_of_le (by show 0<2;decide) f2),Bool.false_and] at h2;injection h2
    ·have h2:(!d0.contains []&&false)=true:=h2
     injection h2
    ·exact absurd lk (by show ¬ (4≤3);decide)
    ·exact absurd lk (by show ¬ (5≤3);decide)
    ·exact absurd lk (by show ¬ (5≤3);decide)
theorem zm {a b c d:Nat}(hl:∀ x∈[a,b,c,d],97≤x) (hd:due [a,b,c,d]=[]):ag (ag [a,b,c,d])=ag [a,b,c,d]:=by
 cases h1:aE.lookup [a,b,c,d] with
 | some t =>
  have z:=aab.mp A4 _ (bX h1)
  have z:(!true||(chk [a,b,c,d]&&(ag (ag [a,b,c,d])==ag [a,b,c,d]||!(due [a,b,c,d]==[]))))=true:=z
  rw [hd] at z
  have z:=(aac.mp z).2
  rcases Bool.or_eq_true_iff.mp z with z | z
  ·exact eq_of_beq z
  ·injection z
 | none =>
 by_cases hf:ag [a,b,c,d]=[a,b,c,d]
 ·rw [hf,hf]
 have h2:=iM h1 hf
 have h9:[a,b,c,d].contains 89=false:=by
  cases t:[a,b,c,d].contains 89 with
  | false=>rfl
  | true=>exact absurd (hl _ (aak.mp t)) (by decide)
 refine (Nat.lt_or_ge (ag [a,b,c,d]).length 4).elim (fun ls=>?_) (fun ls=>jS h1 h2 hf ls (.inr h9))
 rcases Nat.lt_or_ge (ag [a,b,c,d]).length 3 with l3 | l3
 ·exact dA l3
 have l3:(ag [a,b,c,d]).length=3:=Nat.le_antisymm (Nat.le_of_lt_succ ls) l3
 have ne:∀ {x:Nat},x∈[a,b,c,d]→∀ k,k<97→x≠k:=fun hx k hk e=>by
  have:=hl _ hx;lia
 have ma:a∈[a,b,c,d]:=aam
 have mb:b∈[a,b,c,d]:=aag _ aam
 have mc:c∈[a,b,c,d]:=aag _ (aag _ aam)
 have md:d∈[a,b,c,d]:=aag _ (aag _ (aag _ aam))
 have ss:=xI h1 h2 (by show (some a==some 39)=false;rw [beq_eq_false_iff_ne];intro z;exact ne ma 39 (by decide) (aaa z)) h9
 rw [ss,cr,aad,lW (by rw [be];rfl)] at l3
 rw [lW (by rw [be];rfl)] at ss
 obtain ⟨x,hx⟩:∃ x,mk1 none a=x:=⟨_,rfl⟩
 obtain ⟨y,hy⟩:∃ y,mk1 (some x) b=y:=⟨_,rfl⟩
 obtain ⟨z,hz⟩:∃ z,mk1 (some y) c=z:=⟨_,rfl⟩
 obtain ⟨u,hu⟩:∃ u,mk1 (some z) d=u:=⟨_,rfl⟩
 have m0:ad [a,b,c,d]=[x,y,z,u]:=by
  show [mk1 none a,mk1 (some (mk1 none a)) b,mk1 (some (mk1 (some (mk1 none a)) b)) c,mk1 (some (mk1 (some (mk1 (some (mk1 none a)) b)) c)) d]=_
  rw [hx,hy,hz,hu]
 rw [m0] at ss l3
 have ss:ag [a,b,c,d]=small (aR (first [x,y,z,u]) 4 [u,z,y,x]).reverse:=ss
 have l3:(aR (first [x,y,z,u]) 4 [u,z,y,x]).length=3:=l3
 have q39:∀ {p:Option Nat}{k:Nat},k≠39→mk1 p k≠39:=fun {p k} h t=>by
  rcases bm p k with e | ⟨_,e⟩
  ·exact h (e.symm.trans t)
  ·rw [e] at t;(injection t with hE;cases hE)
 have u39:u≠39:=hu▸q39 (ne md 39 (by decide))
 have z39:z≠39:=hz▸q39 (ne mc 39 (by decide))
 have h0:aU [u,z,y,x]=[u,z,y,x]:=by
  rw [oP]
  show ((39==u&&true)||(115==u&&(39==z&&true)))=false
  rw [beq_eq_false_iff_ne.mpr (Ne.symm u39),beq_eq_false_iff_ne.mpr (Ne.symm z39),Bool.false_and,Bool.and_false];rfl
 have sx:sm x=a:=by rw [← hx];exact tE (ne ma 89 (by decide))
 have sy:sm y=b:=by rw [← hy];exact tE (ne mb 89 (by decide))
 have sz:sm z=c:=by rw [← hz];exact tE (ne mc 89 (by decide))
 have fin:∀ t t':Nat,aR (first [x,y,z,u]) 4 [u,z,y,x]=[t,y,x]→sm t=t'→mk1 (some y) t'=t→t'≠39→t'≠89→bB (first [x,y,t]) [t,y,x]=true→ag (ag [a,b,c,d])=ag [a,b,c,d]:=fun t t' e1 e2 e3 e4 e5 e6=>by
  have e:ag [a,b,c,d]=[a,b,t']:=by
   rw [ss,e1]
   show [sm x,sm y,sm t]=_
   rw [sx,sy,e2]
  rw [e]
  refine gc rfl (eG rfl) (hd3 (ne ma 39 (by decide)) ?_) (no9 (ne ma 89 (by decide)) (ne mb 89 (by decide)) e5 _) ?_
  ·rw [oW,beq_eq_false_iff_ne.mpr (Ne.symm e4),beq_eq_false_iff_ne.mpr (Ne.symm (ne mb 39 (by decide))),Bool.and_false];rfl
  ·have:ad [a,b,t']=[x,y,t]:=by
    show [mk1 none a,mk1 (some (mk1 none a)) b,mk1 (some (mk1 (some (mk1 none a)) b)) t']=_
    rw [hx,hy,e3]
   rw [this];exact e6
 have f2:=d6 [x,y,z,u] (Nat.le_add_left 2 2)
 rcases xH f2 h0 l3 with ⟨t,e1,e2,e3,e4,e5⟩ | ⟨e1,e2,e3,e4⟩
 ·have tt:=oX (aaf (by decide) f2) e3 e4 e5
  rcases e2 with e2 | e2 | e2
  ·subst e2
   exact fin t c e1 sz hz (ne mc 39 (by decide)) (ne mc 89 (by decide)) tt
  ·subst e2;exact fin 105 105 e1 rfl (kK (by decide)) (by decide) (by decide) tt
  ·subst e2;exact fin 101 101 e1 rfl (kK (by decide)) (by decide) (by decide) tt
 ·subst e1
  have ed:d=101:=by
   rcases bm (some z) d with e | ⟨_,e⟩
   ·exact e.symm.trans hu
   ·rw [hu] at e;cases e
  subst ed
  exact fin z c e2 sz hz (ne mc 39 (by decide)) (ne mc 89 (by decide)) (A5 ⟨ne mb 89 (by decide),ne mc 89 (by decide)⟩ hx hy hz hd e3)
theorem A6 {a b c d:Nat}(hl:∀ x∈[a,b,c,d],97≤x∧x≤122):[ag [a,b,c,d],ag (ag [a,b,c,d])]=if due [a,b,c,d]=[] then [ag [a,b,c,d],ag [a,b,c,d]] else due [a,b,c,d]:=by
 by_cases h:due [a,b,c,d]=[]
 ·rw [if_pos h,zm (fun x hx=>(hl x hx).1) h]
 ·rw [if_neg h]
  have z:=A3 (hl b (aag _ aam)) h
  rcases Bool.or_eq_true_iff.mp z with z | z
  ·exact eq_of_beq z
  ·exact absurd (eq_of_beq z) h
end Mine.Eng
end
section
open PySem PySem.W PyProof.Rows
open Mine.Eng
namespace Mine
section
variable {G:Sg}{k n m p:Nat}{ρ:Rho}{σ:St}{x:X}{xs:List X}{vs:List V}{v:V}{f:Nat}{t r w:List Nat}{Q:aP}
theorem fZ {a b:X}{l m:List Nat}(h1:ev G ρ σ a=some (.str l,σ)) (h2:ev G ρ σ b=some (.str m,σ)) (h:l.length+m.length≤2000):ev G ρ σ (.bin .add a b)=some (.str (l++m),σ):=sO h1 h2 (aaf h (by decide))
theorem A7 {a:X}{w:List Nat}{j:Nat}(h1:ev G ρ σ a=some (.str w,σ)):ev G ρ σ (.slc a (.int j) .non)=some (.str (w.drop j),σ):=by
 show (ev G ρ σ a).bind _=_
 rw [h1];show some (V.str (cut w (some (j:Int)) none),σ)=_
 rw [mF]
theorem A8:ks "only"=[111,110,108,121]∧ks "ugly"=[117,103,108,121]∧ks "aede"=[97,101,100,101]∧ks "oede"=[111,101,100,101]∧ks "uede"=[117,101,100,101]∧ks "iede"=[105,101,100,101]∧ks "ied"=[105,101,100]∧ks "ie"=[105,101]:=by decide +kernel
theorem tF {a b:X}{x y:V}(h1:ev G ρ σ a=some (x,σ)) (h2:ev G ρ σ b=some (y,σ)):ev G ρ σ (.lst [a,b])=some (.list [x,y],σ):=by
 show (evs G ρ σ [a,b]).map _=_
 rw [fG h1 (fG h2 rfl)];rfl
theorem Du (k:Nat) (a b c d:Nat):(GG (k+1)).Ψ 11 [.str [a,b,c,d]]=some (.list ((due [a,b,c,d]).map .str)):=by
 refine dg rfl fun σ=>?_
 obtain ⟨h1,h2,h3,h4,h5,h6,h7,h8⟩:=A8
 unfold due
 rw [h1,h2,h3,h4,h5,h6,h7,h8]
 have sh:=fun (j:Nat)=>lH (G:=GG k) (σ:=σ) (ρ:=[some (.str [a,b,c,d])]) (a:=.loc 0) (b:=.int j) (w:=[a,b,c,d]) (i:=j) (j:=j) rfl rfl rfl
 have cc:=fun (l:List Nat) (s:List Nat) (u:List Nat)=>show ev (GG k) [some (.str [a,b,c,d])] σ (.conj [.cmp .isin (.idx (.loc 0) (.int 0)) (.str l),.cmp .notin (.idx (.loc 0) (.int 1)) (.str s),.cmp .eq (.slc (.loc 0) (.int 2) .non) (.str u)])=some (.bool (l.contains a&&(!s.contains b&&[c,d]==u)),σ) from by
  have:=bK (cK (G:=GG k) (σ:=σ) (ρ:=[some (.str [a,b,c,d])]) (a:=.idx (.loc 0) (.int 0)) (b:=.str l) (bJ (dQ (i:=0) (x:=a) rfl rfl) rfl rfl) rfl (gV l a)) fun zz=>bK (mO (a:=.idx (.loc 0) (.int 1)) (b:=.str s) (bJ (dQ (i:=1) (x:=b) rfl rfl) rfl rfl) rfl (gV s b)) fun zz=>bK (r:=[]) (q:=true) (dE (a:=.slc (.loc 0) (.int 2) .non) (b:=.str u) (l:=[c,d]) (A7 (j:=2) (w:=[a,b,c,d]) rfl) rfl) fun zz=>rfl
  rw [Bool.and_true] at this;exact this
 refine .ite (cK (vb:=.list ([[111,110,108,121],[117,103,108,121]].map .str)) rfl rfl (dw [a,b,c,d] _)) (fun q=>?_) fun q=>.nil ?_
 ·rw [if_pos q]
  exact .ret (tF (fZ (sh 3) (b:=.str [105]) rfl (by show 3+1≤2000;decide)) (sh 2)) ⟨rfl,rfl⟩
 rw [if_neg (ne_true_of_eq_false q)]
 refine .ite (cc [97,101,105,111,117] [115,117] [115,101]) (fun q=>?_) fun q=>.nil ?_
 ·rw [if_pos (show ([97,101,105,111,117].contains ([a,b,c,d].getD 0 0)&&(!([115,117].contains ([a,b,c,d].getD 1 0))&&[a,b,c,d].drop 2==[115,101]))=true from q)]
  exact .ret (tF (sh 3) (sh 2)) ⟨rfl,rfl⟩
 rw [if_neg (show ¬ ([97,101,105,111,117].contains ([a,b,c,d].getD 0 0)&&(!([115,117].contains ([a,b,c,d].getD 1 0))&&[a,b,c,d].drop 2==[115,101]))=true from ne_true_of_eq_false q)]
 refine .ite (cK (vb:=.list ([[97,101,100,101],[111,101,100,101],[117,101,100,101]].map .str)) rfl rfl (dw [a,b,c,d] _)) (fun q=>?_) fun q=>.nil ?_
 ·rw [if_pos q]
  exact .ret (tF (sh 3) (sh 1)) ⟨rfl,rfl⟩
 rw [if_neg (ne_true_of_eq_false q)]
 refine .ite (dE (l:=[a,b,c,d]) (m:=[105,101,100,101]) rfl rfl) (fun q=>?_) fun q=>.nil ?_
 ·rw [if_pos q]
  exact .ret (tF rfl rfl) ⟨rfl,rfl⟩
 rw [if_neg (ne_true_of_eq_false q)]
 refine .ite (cc [97,101,105,111,117] [97,101,105,111,117] [121,101]) (fun q=>?_) fun q=>.nil ?_
 ·rw [if_pos (show ([97,101,105,111,117].contains ([a,b,c,d].getD 0 0)&&(!([97,101,105,111,117].contains ([a,b,c,d].getD 1 0))&&[a,b,c,d].drop 2==[121,101]))=true from q)]
  exact .ret (tF (sh 3) (fZ (sh 2) (b:=.str [105]) rfl (by show 2+1≤2000;decide))) ⟨rfl,rfl⟩
 rw [if_neg (show ¬ ([97,101,105,111,117].contains ([a,b,c,d].getD 0 0)&&(!([97,101,105,111,117].contains ([a,b,c,d].getD 1 0))&&[a,b,c,d].drop 2==[121,101]))=true from ne_true_of_eq_false q)]
 exact .ret rfl ⟨rfl,rfl⟩
end
noncomputable def Hi:List S:=[.set 5 (.meth (.loc 4) 26 [.loc 8]),
 .ite (.cmp .ne (.cmp .eq (.loc 5) (.loc 8)) (.call 10 [.loc 8])) [.ret (.bool false)] [],
 .ite (.cmp .eq (.loc 5) (.loc 8)) [.ret (.bool true)] [],
 .set 15 (.call 7 [.loc 8]),
 .set 16 (.ife (.cmp .eq (.loc 15) (.loc 8)) (.loc 8) (.sm .join (.str []) (.comp (.ife (.cmp .eq (.loc 17) (.str [89])) (.str [121]) (.loc 17)) 17 (.loc 8)))),
 .ite (.conj [.cmp .isin (.idx (.loc 15) (.bin .sub (.bi .len [.loc 15]) (.int 1))) (.lst [.str [121],.str [89]]),.not (.call 5 [.idx (.loc 15) (.bin .sub (.bi .len [.loc 15]) (.int 2))])]) [.set 16 (.bin .add (.slc (.loc 16) .non (.bin .sub (.bi .len [.loc 16]) (.int 1))) (.str [105]))] [],
 .ite (.conj [.cmp .ge (.bi .len [.loc 5]) (.bi .len [.loc 8]),.cmp .ne (.loc 5) (.loc 16)]) [.ret (.bool false)] [],
 .set 8 (.loc 5)]
noncomputable def rT (v0 v1 v2 v3:Option V) (v5 v6 v7:Option V) (t:List Nat) (v9 v10 v11 v12 v13 v14 v15 v16 v17:Option V):Rho:=[v0,v1,v2,v3,some (.obj 0),v5,v6,v7,some (.str t),v9,v10,v11,v12,v13,v14,v15,v16,v17]
section
variable {G:Sg}{k n m p:Nat}{ρ:Rho}{σ:St}{x:X}{xs:List X}{vs:List V}{v:V}{f:Nat}{t r w s:List Nat}{Q:aP}
theorem pV {c l lb bra ket:Int}{ex:ah}{i:Nat}(hg:iW ex) (ht:t.length<700) (h0:ρ[i]? = some (some (.obj 0))) (h1:ev (GG 6) ρ (st s c l lb bra ket ex) x=some (.str t,st s c l lb bra ket ex)):∃ σ',ev (GG 6) ρ (st s c l lb bra ket ex) (.meth (.loc i) 26 [x])=some (.str (ag t),σ')∧AG (ag t) σ':=by
 obtain ⟨v,σ',e,rfl,h⟩:=uD (s:=s) (c:=c) (l:=l) (lb:=lb) (bra:=bra) (ket:=ket) 0 hg ht
 exact ⟨σ',(pF (G:=GG 6) (m:=14) (a:=.loc i) rfl (by decide) (fJ h0) (fG h1 rfl) (hg.ok 14)).trans e,h⟩
theorem A9 {v0 v1 v2 v3 v5 v6 v7 v9 v10 v11 v12 v13 v14 v15 v16 v17:Option V}(ht:t.length≤2000):ev G (rT v0 v1 v2 v3 v5 v6 v7 t v9 v10 v11 v12 v13 v14 v15 v16 v17) σ (.sm .join (.str []) (.comp (.ife (.cmp .eq (.loc 17) (.str [89])) (.str [121]) (.loc 17)) 17 (.loc 8)))=some (.str (small t),σ):=by
 refine tg (vE (l:=t) rfl fun c=>?_) (by show (small t).length≤2000;rw [cr];exact ht)
 refine eF (p:=c==89) ?_ (fun h=>?_) fun h=>?_
 ·have:=dE (G:=G) (σ:=σ) (ρ:=(rT v0 v1 v2 v3 v5 v6 v7 t v9 v10 v11 v12 v13 v14 v15 v16 v17).set 17 (some (.str [c]))) (a:=.loc 17) (b:=.str [89]) (l:=[c]) (m:=[89]) rfl rfl
  rw [this]
  rw [show ([c]==[89])=(c==89) by show (c==89&&true)=_;rw [Bool.and_true]]
 ·rw [h];rfl
 ·rw [h];rfl
noncomputable def base (w:List Nat):List Nat:=if ad w=w then w else small w
theorem mV (w:List Nat):(base w).length=w.length:=by
 unfold base;split
 ·rfl
 ·exact cr w
theorem Ba {z y x:Nat}{q:List Nat}(h:(ad w).reverse=z :: y :: x :: q):eA w=if ((some z==some 121||some z==some 89)&&!vow y)=true then (base w).take (w.length - 1)++[105] else base w:=by
 have eb:(if ad w=w then (ad w).reverse else small (ad w).reverse).reverse=base w:=by
  unfold base
  split
  ·rename_i e;rw [aaq,e]
  ·rw [iJ,aaq,fL]
 have ec:dz (ad w).reverse=((some z==some 121||some z==some 89)&&!vow y):=by rw [h];rfl
 unfold eA jR
 dsimp only
 rw [ec]
 split
 ·rw [List.reverse_cons]
  congr 1
  rw [← eb,List.take_reverse,← List.drop_one]
  congr 2
  have:(if ad w=w then (ad w).reverse else small (ad w).reverse).length=w.length:=by rw [← aad,eb,mV]
  rw [this]
  have l3:w.length=q.length+3:=by have:=congrArg List.length h;rw [aad,be] at this;exact this
  omega
 ·exact eb
theorem zn {v0 v1 v2 v3 v5 v6 v7 v9 v10 v11 v12 v13 v14 v16 v17:Option V}{rest:List S}(hw:w.length≤700) (h3:3≤w.length) (h:RB (GG 6) n rest (rT v0 v1 v2 v3 v5 v6 v7 w v9 v10 v11 v12 v13 v14 (some (.str (ad w))) (some (.str (eA w))) v17) σ Q) :
 RB (GG 6) n (.set 16 (.ife (.cmp .eq (.loc 15) (.loc 8)) (.loc 8) (.sm .join (.str []) (.comp (.ife (.cmp .eq (.loc 17) (.str [89])) (.str [121]) (.loc 17)) 17 (.loc 8)))) ::
 .ite (.conj [.cmp .isin (.idx (.loc 15) (.bin .sub (.bi .len [.loc 15]) (.int 1))) (.lst [.str [121],.str [89]]),.not (.call 5 [.idx (.loc 15) (.bin .sub (.bi .len [.loc 15]) (.int 2))])]) [.set 16 (.bin .add (.slc (.loc 16) .non (.bin .sub (.bi .len [.loc 16]) (.int 1))) (.str [105]))] [] :: rest) (rT v0 v1 v2 v3 v5 v6 v7 w v9 v10 v11 v12 v13 v14 (some (.str (ad w))) v16 v17) σ Q:=by
 have lm:=be w
 obtain ⟨z,y,x,q,hr⟩:∃ z y x q,(ad w).reverse=z :: y :: x :: q:=by
  have:(ad w).reverse.length=w.length:=by rw [aad];exact lm
  exact lU (this▸h3)
 have l1:1≤w.length:=aaf (by decide) h3
 have l2:2≤w.length:=aaf (by decide) h3
 have c1:((ad w).length:Int) - 1=((w.length - 1:Nat):Int):=by rw [lm];exact (Int.ofNat_sub l1).symm
 have c2:((ad w).length:Int) - 2=((w.length - 2:Nat):Int):=by rw [lm];exact (Int.ofNat_sub l2).symm
 have at1:(ad w)[w.length - 1]? = some z:=by
  have:=List.getElem?_reverse (l:=ad w) (i:=0) (lm▸l1)
  rw [hr,lm] at this;exact this.symm
 have at2:(ad w)[w.length - 2]? = some y:=by
  have:=List.getElem?_reverse (l:=ad w) (i:=1) (lm▸l2)
  rw [hr,lm] at this;exact this.symm
 have tr:=Ba hr
 refine .set (v:=.str (base w)) (σ':=σ) ?_ ?_
 ·refine eF (p:=ad w==w) (dE rfl rfl) (fun h=>?_) fun h=>?_
  ·unfold base;rw [if_pos (eq_of_beq h)];rfl
  ·unfold base;rw [if_neg (beq_eq_false_iff_ne.mp h)];exact A9 (aaf hw (by decide))
 show RB _ _ _ (rT v0 v1 v2 v3 v5 v6 v7 w v9 v10 v11 v12 v13 v14 (some (.str (ad w))) (some (.str (base w))) v17) _ _
 have ec:=bK (cK (G:=GG 6) (σ:=σ) (ρ:=rT v0 v1 v2 v3 v5 v6 v7 w v9 v10 v11 v12 v13 v14 (some (.str (ad w))) (some (.str (base w))) v17) (a:=.idx (.loc 15) (.bin .sub (.bi .len [.loc 15]) (.int 1))) (b:=.lst [.str [121],.str [89]]) (va:=.str [z]) (vb:=.list (([121,89].map fun x=>[x]).map .str)) (p:=(some z==some 121||some z==some 89)) (bJ (dQ (i:=w.length - 1) (j:=((ad w).length:Int) - 1) c1 at1) rfl (dc (de rfl) rfl)) rfl ((dw _ _).trans (congrArg some ((oG _ _).trans (zi z))))) fun zz=>bK (r:=[]) (q:=true) (Fw (cE (f:=5) (xs:=[.idx (.loc 15) (.bin .sub (.bi .len [.loc 15]) (.int 2))]) (fG (bJ (dQ (i:=w.length - 2) (j:=((ad w).length:Int) - 2) c2 at2) rfl (dc (de rfl) rfl)) rfl) (mP 5 y))) fun zz=>rfl
 rw [Bool.and_true] at ec
 refine .ite ec (fun hq=>?_) fun hq=>.nil ?_
 ·rw [if_pos hq] at tr
  have:=fZ (G:=GG 6) (σ:=σ) (ρ:=rT v0 v1 v2 v3 v5 v6 v7 w v9 v10 v11 v12 v13 v14 (some (.str (ad w))) (some (.str (base w))) v17) (lH (a:=.loc 16) (b:=.bin .sub (.bi .len [.loc 16]) (.int 1)) (w:=base w) (j:=w.length - 1) rfl (dc (de rfl) rfl) (by rw [mV];exact (Int.ofNat_sub l1).symm)) (b:=.str [105]) rfl (by rw [List.length_take,mV];exact aaf (Nat.add_le_add_right (Nat.min_le_right _ _) 1) (aaf (Nat.add_le_add_right hw 1) (by decide)))
  rw [← tr] at this
  exact .set this (.nil h)
 ·rw [if_neg (ne_true_of_eq_false hq)] at tr
  rw [← tr]
  exact h
theorem Hj:∀ (l:Nat) (its:List V) (w s:List Nat) (c l0 lb bra ket:Int) (ex:ah) (v5 v11 v15 v16:Option V) {v0 v1 v2 v3 v6 v7 v9 v10 v12 v13 v14 v17:Option V},its.length=l→iW ex→w.length<700→loop l w=true→(∀ ρ σ,Q (.ret (.bool true)) ρ σ) →
 RF (GG 6) n 11 Hi its (rT v0 v1 v2 v3 v5 v6 v7 w v9 v10 v11 v12 v13 v14 v15 v16 v17) (st s c l0 lb bra ket ex) Q:=by
 intro l
 induction l with
 | zero=>intro its w s c l0 lb bra ket ex v5 v11 v15 v16 v0 v1 v2 v3 v6 v7 v9 v10 v12 v13 v14 v17 hi hg hw hl hQ;injection hl
 | succ l ih =>
 intro its w s c l0 lb bra ket ex v5 v11 v15 v16 v0 v1 v2 v3 v6 v7 v9 v10 v12 v13 v14 v17 hi hg hw hl hQ
 cases its with
 | nil=>injection hi
 | cons it its =>
  obtain ⟨σ',e,hσ⟩:=pV (s:=s) (c:=c) (l:=l0) (lb:=lb) (bra:=bra) (ket:=ket) (t:=w) (x:=.loc 8) (i:=4) (ρ:=rT v0 v1 v2 v3 v5 v6 v7 w v9 v10 (some it) v12 v13 v14 v15 v16 v17) hg hw rfl rfl
  obtain ⟨ex',c',bra',ket',hg',rfl⟩:=hσ
  have er:=AV (w:=w) 3 (Nat.le_of_lt (by assumption))
  have hs:=iL l w
  rw [hl] at hs
  have rs:(ag w==w)=eO w:=by rw [Bool.eq_iff_iff,beq_iff_eq];exact iI w
  refine .turn (.set e ?_)
  have c1:∀ σ,ev (GG 6) (rT v0 v1 v2 v3 (some (.str (ag w))) v6 v7 w v9 v10 (some it) v12 v13 v14 v15 v16 v17) σ (.cmp .ne (.cmp .eq (.loc 5) (.loc 8)) (.call 10 [.loc 8]))=some (.bool false,σ):=fun σ=>by
   show (ev (GG 6) _ σ (.cmp .eq (.loc 5) (.loc 8))).bind _=_
   rw [dE (l:=ag w) (m:=w) rfl rfl]
   show (ev (GG 6) _ σ (.call 10 [.loc 8])).bind _=_
   rw [cE (vs:=[.str w]) rfl er,rs]
   show some (V.bool (!(eO w==eO w)),σ)=_
   rw [beq_self_eq_true];rfl
  refine .skip (c1 _) (.ite (dE (l:=ag w) (m:=w) rfl rfl) (fun q=>.ret rfl (hQ _ _)) fun q=>.nil ?_)
  rw [if_neg (ne_true_of_eq_false q)] at hs
  have h3:3≤w.length:=by
   rcases Nat.lt_or_ge w.length 3 with h | h
   ·rw [dA h,beq_self_eq_true] at q;injection q
   ·exact h
  refine .set (cE (vs:=[.str w]) rfl (qm 4 (Nat.le_of_lt (Nat.lt_of_lt_of_le (by assumption) (by decide))))) (zn (Nat.le_of_lt (by assumption)) h3 ?_)
  have ne:ag w≠w:=beq_eq_false_iff_ne.mp q
  have le:=pT w
  have c2:∀ σ,ev (GG 6) (rT v0 v1 v2 v3 (some (.str (ag w))) v6 v7 w v9 v10 (some it) v12 v13 v14 (some (.str (ad w))) (some (.str (eA w))) v17) σ (.conj [.cmp .ge (.bi .len [.loc 5]) (.bi .len [.loc 8]),.cmp .ne (.loc 5) (.loc 16)])=some (.bool false,σ):=fun σ=>by
   have:=bK (BF (G:=GG 6) (σ:=σ) (ρ:=rT v0 v1 v2 v3 (some (.str (ag w))) v6 v7 w v9 v10 (some it) v12 v13 v14 (some (.str (ad w))) (some (.str (eA w))) v17) (x:=.bi .len [.loc 5]) (y:=.bi .len [.loc 8]) (de rfl) (de rfl)) fun zz=>bK (r:=[]) (q:=true) (yX (a:=.loc 5) (b:=.loc 16) (l:=ag w) (m:=eA w) rfl rfl) fun zz=>rfl
   rw [Bool.and_true] at this
   rw [this]
   cases z:decide (((ag w).length:Int)≥w.length) with
   | false=>rfl
   | true =>
    have z:=of_decide_eq_true z
    rw [vO ne (by omega),beq_self_eq_true];rfl
  refine .skip (c2 _) (.set (v:=.str (ag w)) rfl (.nil ?_))
  exact ih its (ag w) _ _ _ _ _ _ _ _ _ _ _ (Nat.succ.inj hi) hg' (Nat.lt_of_le_of_lt (by assumption) (by assumption)) hs.symm hQ
end
noncomputable def PLa:List (List Nat):=[[97],[98],[99],[100],[101],[102],[103],[104],[105],[106],[107],[108],[109],[110],[111],[112],[113],[114],[115],[116],[117],[118],[119],[120],[121],[122],[39],[89],[39,115],[39,115,39],[115,115,101,115],[105,101,100],[105,101,115],[117,115],[115,115],[101,101,100],[101,101,100,108,121],[101,100],[101,100,108,121],[105,110,103],[105,110,103,108,121],[97,116],[98,108],[105,122],[98,98],[100,100],[102,102],[103,103],[109,109],[110,110],[112,112],[114,114],[116,116],[97,110,99,105],[101,110,99,105],[111,103,105],[108,105],[98,108,105],[97,98,108,105],[97,108,108,105]]
noncomputable def PLb:List (List Nat):=[[102,117,108,108,105],[108,101,115,115,108,105],[111,117,115,108,105],[101,110,116,108,105],[97,108,105,116,105],[98,105,108,105,116,105],[105,118,105,116,105],[116,105,111,110,97,108],[97,116,105,111,110,97,108],[97,108,105,115,109],[97,116,105,111,110],[105,122,97,116,105,111,110],[105,122,101,114],[97,116,111,114],[105,118,101,110,101,115,115],[102,117,108,110,101,115,115],[111,117,115,110,101,115,115],[111,103,105,115,116],[105,99,97,116,101],[97,116,105,118,101],[97,108,105,122,101],[105,99,105,116,105],[105,99,97,108],[102,117,108],[110,101,115,115],[105,99],[97,110,99,101],[101,110,99,101],[97,98,108,101],[105,98,108,101],[97,116,101],[105,118,101],[105,122,101],[105,116,105],[97,108],[105,115,109],[105,111,110],[101,114],[111,117,115],[97,110,116],[101,110,116],[109,101,110,116],[101,109,101,110,116],[97,114,115,101,110],[99,111,109,109,117,110],[101,109,101,114,103],[103,101,110,101,114],[105,110,116,101,114],[108,97,116,101,114],[111,114,103,97,110],[112,97,115,116],[117,110,105,118,101,114,115],[101,118,101,110],[99,97,110,110],[105,110,110],[101,97,114,114],[104,101,114,114],[111,117,116],[115,117,99,99],[112,114,111,99],[101,120,99],[97,110,100,101,115],[97,116,108,97,115],[98,105,97,115],[99,111,115,109,111,115],[101,97,114,108,121],[103,101,110,116,108,121],[104,111,119,101],[105,100,108,121],[110,101,119,115],[111,110,108,121],[115,105,110,103,108,121],[115,107,105,101,115],[115,107,105,115],[115,107,121],[117,103,108,121]]
noncomputable def PL:List (List Nat):=PLa++PLb
noncomputable def PR:List (List Nat):=[[115,101],[100,101],[121,101],[108,121],[101,115],[101,100]]
theorem tG (k:Nat):(GG (k+1)).Ψ 0 []=some (.list (PL.map .str)):=dg rfl fun σ=>.ret rfl ⟨rfl,rfl⟩
theorem Bb (k:Nat):(GG (k+1)).Ψ 1 []=some (.list (PR.map .str)):=dg rfl fun σ=>.ret rfl ⟨rfl,rfl⟩
theorem xK:(PL.all fun s=>Nat.ble s.length 8)=true∧PL.length=136∧((List.range 26).all fun i=>PL[i]?==some [97+i])=true:=by decide +kernel
theorem Hk:((List.range 6).all fun i=>match PR[i]? with | some [c,d]=>Nat.ble 97 c&&Nat.ble c 122&&(Nat.ble 97 d&&Nat.ble d 122) | _=>false)=true:=by decide +kernel
section
variable {G:Sg}{k n m p:Nat}{ρ:Rho}{σ:St}{x:X}{xs:List X}{vs:List V}{v:V}{f:Nat}{t r w s:List Nat}{Q:aP}
theorem zo {α:Type}(w:List α) (a:Nat):cut w none (some (a:Int))=w.take a:=by
 unfold cut
 show (w.drop 0).take (clipAt w.length (a:Int) - 0)=_
 rw [eU,List.drop_zero,Nat.sub_zero]
 rcases Nat.le_total a w.length with h | h
 ·rw [Nat.min_eq_left h]
 ·rw [Nat.min_eq_right h,List.take_of_length_le h,List.take_of_length_le (Nat.le_refl _)]
theorem qU (i:Int) (b:Int) (hb:0<b):∃ n:Nat,i.fmod b=n∧(n:Int)<b:=by
 refine ⟨(i.fmod b).toNat,?_,?_⟩
 ·rw [Int.fmod_eq_emod_of_nonneg _ (Int.le_of_lt hb)]
  have:=Int.emod_nonneg i (Int.ne_of_gt hb);omega
 ·rw [Int.fmod_eq_emod_of_nonneg _ (Int.le_of_lt hb)]
  have:=Int.emod_nonneg i (Int.ne_of_gt hb);have:=Int.emod_lt_of_pos i hb;omega
theorem lI {a:X}{i b:Int}(hb:0<b) (h:ev G ρ σ a=some (.int i,σ)):ev G ρ σ (.bin .mod a (.int b))=some (.int (i.fmod b),σ):=by
 show (ev G ρ σ a).bind _=_
 rw [h]
 show (if 0<b then some (V.int (i.fmod b)) else none).map _=_
 rw [if_pos hb];rfl
theorem pW {a:X}{i b:Int}(hb:0<b∧b<1073741824) (h:ev G ρ σ a=some (.int i,σ)):ev G ρ σ (.bin .fdiv a (.int b))=some (.int (i.fdiv b),σ):=by
 show (ev G ρ σ a).bind _=_
 rw [h]
 show (if 0<b∧b<1073741824 then some (V.int (i.fdiv b)) else none).map _=_
 rw [if_pos hb];rfl
theorem iO {e:X}{i:Int}(h:ev (GG 6) ρ σ e=some (.int i,σ)):∃ a:Nat,ev (GG 6) ρ σ (.idx (.call 0 []) (.bin .mod e (.int 26)))=some (.str [a],σ)∧97≤a∧a≤122:=by
 obtain ⟨n,e1,e2⟩:=qU i 26 (by decide)
 have hn:n<26:=by omega
 have:=eq_of_beq (aab.mp xK.2.2 n (List.mem_range.mpr hn))
 refine ⟨97+n,bJ (va:=.list (PL.map .str)) (vi:=.int n) (gW ?_) (cE rfl (tG 5)) ((lI (by decide) h).trans (by rw [e1])),by lia,by omega⟩
 rw [List.getElem?_map,this];rfl
theorem qV {x y:X}{i j:Int}(h1:ev G ρ σ x=some (.int i,σ)) (h2:ev G ρ σ y=some (.int j,σ)):ev G ρ σ (.cmp .lt x y)=some (.bool (decide (i<j)),σ):=by
 show (ev G ρ σ x).bind _=_
 rw [h1];show (ev G ρ σ y).bind _=_
 rw [h2];rfl
set_option tactic.hygienic true in
theorem Dv {l:Int}(h1:ev (GG 6) ρ σ (.loc 1)=some (.int (l.fmod 8),σ)) (h14:ev (GG 6) ρ σ (.loc 14)=some (.int l,σ)):∃ c d:Nat,ev (GG 6) ρ σ (.ife (.cmp .lt (.loc 1) (.int 6)) (.idx (.call 1 []) (.loc 1)) (.bin .add (.idx (.call 0 []) (.bin .mod (.bin .fdiv (.loc 14) (.int 8)) (.int 26))) (.idx (.call 0 []) (.bin .mod (.bin .fdiv (.loc 14) (.int 208)) (.int 26)))))=some (.str [c,d],σ)∧(97≤c∧c≤122)∧97≤d∧d≤122:=by
 obtain ⟨n,e1,e2⟩:=qU l 8 (by decide)
 by_cases hn:n<6
 ·have hk:=aab.mp Hk n (List.mem_range.mpr hn)
  split at hk
  ·rename_i c d hc
   simp only [Bool.and_eq_true,Nat.ble_eq] at hk
   refine ⟨c,d,eF (p:=true) ?_ (fun zz=>?_) (fun h=>by injection h),hk.1,hk.2⟩
   ·rw [qV h1 rfl,e1,decide_eq_true (by omega)]
   ·refine bJ (va:=.list (PR.map .str)) (vi:=.int n) (gW ?_) (cE rfl (Bb 5)) (h1.trans (by rw [e1]))
    rw [List.getElem?_map,hc];rfl
  ·injection hk
 ·obtain ⟨c,hc,c1,c2⟩:=iO (pW (b:=8) (by decide) h14)
  obtain ⟨d,hd,d1,d2⟩:=iO (pW (b:=208) (by decide) h14)
  refine ⟨c,d,eF (p:=false) ?_ (fun h=>by injection h) (fun zz=>fZ hc hd (by show 1+1≤2000;decide)),⟨c1,c2⟩,d1,d2⟩
  rw [qV h1 rfl,e1,decide_eq_false (by omega)]
theorem FA:ev (GG 6) ρ [] (.new 0)=some (.obj 0,st [] 0 0 0 0 0 []):=rfl
end
noncomputable def Hl:List S:=[.set 1 (.bin .mod (.loc 9) (.int 137)),
 .set 8 (.bin .add (.loc 8) (.ife (.cmp .lt (.loc 1) (.int 136)) (.idx (.call 0 []) (.loc 1)) (.bi .chr [.bin .mod (.bin .add (.int 32) (.bin .fdiv (.loc 9) (.int 137))) (.int 55296)])))]
section
variable {G:Sg}{k n m p:Nat}{ρ:Rho}{σ:St}{x:X}{xs:List X}{vs:List V}{v:V}{f:Nat}{t r w s:List Nat}{Q:aP}
theorem FB (v:V):biV .chr [v]=o4 v:=rfl
theorem Hm {i:Int}(h:0≤i∧i<0x110000):o4 (.int i)=some (.str [i.toNat]):=by
 unfold o4 jt
 dsimp only
 rw [if_pos h]
theorem Dw {j:Nat}(hj:j<55296):o4 (.int j)=some (.str [j]):=Hm ⟨Int.natCast_nonneg j,Int.ofNat_lt.mpr (Nat.lt_trans hj (by decide))⟩
theorem FC {b:Bi}{a:X}{u:V}(h:ev G ρ σ a=some (u,σ)) (q:biV b [u]=some v):ev G ρ σ (.bi b [a])=some (v,σ):=by
 show ((ev G ρ σ a).bind fun p=>some ([p.1],p.2)).bind (fun p=>(biV b p.1).map (·,p.2))=_
 rw [h]
 show (biV b [u]).map (·,σ)=_
 rw [q];rfl
theorem FD {a:X}{j:Nat}(hj:j<55296) (h:ev G ρ σ a=some (.int j,σ)):ev G ρ σ (.bi .chr [a])=some (.str [j],σ):=FC h ((FB _).trans (Dw hj))
theorem BS {v0 v2 v3 v5 v6 v7 v10 v11 v12 v13 v14 v15 v16 v17:Option V} : ∀ (ys:List Int) (t:List Nat) (v1 v9:Option V),t.length+8*ys.length≤1000→(∀ t v1 v9,t.length≤1000→Q .next (rT v0 v1 v2 v3 v5 v6 v7 t v9 v10 v11 v12 v13 v14 v15 v16 v17) σ)→RF (GG 6) n 9 Hl (ys.map .int) (rT v0 v1 v2 v3 v5 v6 v7 t v9 v10 v11 v12 v13 v14 v15 v16 v17) σ Q
 | [],t,v1,v9,hl,hQ=>.nil (hQ t v1 v9 (by simpa using hl))
 | y :: ys,t,v1,v9,hl,hQ=>by
  rw [List.length_cons] at hl
  obtain ⟨i,e1,e2⟩:=qU y 137 (by decide)
  refine .turn (.set (v:=.int i) (σ':=σ) ((lI (by decide) rfl).trans (by rw [e1])) ?_)
  have hs:∃ s:List Nat,s.length≤8∧ev (GG 6) (rT v0 (some (.int i)) v2 v3 v5 v6 v7 t (some (.int y)) v10 v11 v12 v13 v14 v15 v16 v17) σ (.ife (.cmp .lt (.loc 1) (.int 136)) (.idx (.call 0 []) (.loc 1)) (.bi .chr [.bin .mod (.bin .add (.int 32) (.bin .fdiv (.loc 9) (.int 137))) (.int 55296)]))=some (.str s,σ):=by
   by_cases hi:i<136
   ·obtain ⟨s,hs⟩:∃ s,PL[i]? = some s:=⟨_,List.getElem?_eq_getElem (by rw [xK.2.1];exact hi)⟩
    refine ⟨s,aan (aab.mp xK.1 s (aah hs)),eF (p:=true) ?_ (fun zz=>?_) (fun h=>by injection h)⟩
    ·rw [qV (i:=i) (j:=136) rfl rfl,decide_eq_true (by omega)]
    ·exact bJ (va:=.list (PL.map .str)) (vi:=.int i) (gW (by rw [List.getElem?_map,hs];rfl)) (cE rfl (tG 5)) rfl
   ·obtain ⟨j,f1,f2⟩:=qU (32+y.fdiv 137) 55296 (by decide)
    refine ⟨[j],by simp,eF (p:=false) ?_ (fun h=>by injection h) (fun zz=>?_)⟩
    ·rw [qV (i:=i) (j:=136) rfl rfl,decide_eq_false (by omega)]
    ·exact FD (by omega) ((lI (by decide) (pM (x:=32) (y:=y.fdiv 137) rfl (pW (by decide) rfl))).trans (by rw [f1]))
  obtain ⟨s,sl,hs⟩:=hs
  refine .set (fZ (l:=t) rfl hs (by omega)) (.nil ?_)
  exact BS ys (t++s) _ _ (by rw [List.length_append];omega) hQ
theorem Dx {α β:Type}(g:α→β) (l:List α) (a b:Option Int):cut (l.map g) a b=(cut l a b).map g:=by
 unfold cut
 rw [List.length_map,List.map_take,List.map_drop]
theorem FE (zs:List Int):(cut zs (some 3) (some 23)).length≤20:=by
 unfold cut
 show ((zs.drop (clipAt zs.length ((3:Nat):Int))).take (clipAt zs.length ((23:Nat):Int) - clipAt zs.length ((3:Nat):Int))).length≤20
 rw [eU,eU,List.length_take]
 refine aaf (Nat.min_le_left _ _) ?_
 rcases Nat.le_total 3 zs.length with h | h
 ·rw [Nat.min_eq_left h];exact Nat.sub_le_sub_right (Nat.min_le_left _ _) 3
 ·exact aaf (Nat.sub_le _ _) (aaf (Nat.min_le_right _ _) (aaf h (by decide)))
theorem Dy {a b:X}{L:List (List Nat)}(h1:ev G ρ σ a=some (.list (L.map .str),σ)) (h2:ev G ρ σ b=some (.list (L.map .str),σ)):ev G ρ σ (.cmp .ne a b)=some (.bool false,σ):=by
 show (ev G ρ σ a).bind _=_
 rw [h1];show (ev G ρ σ b).bind _=_
 rw [h2]
 show ((((bG (L.map .str)).bind fun p=>(bG (L.map .str)).map fun q=>p==q)).map _).map _=_
 rw [dZ]
 show some (V.bool (!(L==L)),σ)=_
 rw [beq_self_eq_true];rfl
theorem Bc {a b:X}{w:List Nat}{i:Int}{j:Nat}(h1:ev G ρ σ a=some (.str w,σ)) (h2:ev G ρ σ b=some (.int i,σ)) (e:i=j):ev G ρ σ (.slc a b .non)=some (.str (w.drop j),σ):=by
 subst e
 show (ev G ρ σ a).bind _=_
 rw [h1];show (ev G ρ σ b).bind _=_
 rw [h2];show some (V.str (cut w (some (j:Int)) none),σ)=_
 rw [mF]
theorem vS {b:X}{i:Int}(h:ev G ρ σ b=some (.int i,σ)):ev G ρ σ (.bi .max2 [.int 0,b])=some (.int (max 0 i),σ):=by
 show ((some (V.int 0,σ)).bind fun p=>((ev G ρ p.2 b).bind fun q=>some ([q.1],q.2)).map fun q=>(p.1 :: q.1,q.2)).bind _=_
 show ((((ev G ρ σ b).bind fun q=>some ([q.1],q.2)).map fun q=>(V.int 0 :: q.1,q.2))).bind _=_
 rw [h];rfl
end
section
variable {G:Sg}{k n m p:Nat}{ρ:Rho}{σ:St}{x:X}{xs:List X}{vs:List V}{v:V}{f:Nat}{t r w s:List Nat}{Q:aP}
theorem Bd (zs:List Int):∃ i j l:Int,(zs.take 3++[0,0,0]).take 3=[i,j,l]:=by
 rcases zs with _ | ⟨a,_ | ⟨b,_ | ⟨c,q⟩⟩⟩<;>exact ⟨_,_,_,rfl⟩
theorem tH {a:X}{w:List V}{j:Nat}(h1:ev G ρ σ a=some (.list w,σ)):ev G ρ σ (.slc a .non (.int j))=some (.list (w.take j),σ):=by
 show (ev G ρ σ a).bind _=_
 rw [h1];show some (V.list (cut w none (some (j:Int))),σ)=_
 rw [zo]
theorem Be (zs:List Int) (hl:zs.length≤63) (h:ev G ρ σ (.loc 0)=some (.list (zs.map .int),σ)):ev G ρ σ (.slc (.bin .add (.slc (.loc 0) .non (.int 3)) (.lst [.int 0,.int 0,.int 0])) .non (.int 3))=some (.list (((zs.take 3++[0,0,0]).take 3).map .int),σ):=by
 have e1:=tH (j:=3) h
 have e2:ev G ρ σ (.bin .add (.slc (.loc 0) .non (.int 3)) (.lst [.int 0,.int 0,.int 0]))=some (.list ((zs.map V.int).take 3++[V.int 0,V.int 0,V.int 0]),σ):=by
  show (ev G ρ σ (.slc (.loc 0) .non (.int ((3:Nat):Int)))).bind _=_
  rw [e1]
  show (if ((zs.map V.int).take 3).length+3≤big then some (V.list ((zs.map V.int).take 3++[V.int 0,V.int 0,V.int 0])) else none).map _=_
  rw [if_pos (by rw [List.length_take];exact aaf (Nat.add_le_add_right (Nat.min_le_left _ _) 3) (by decide))];rfl
 have e3:=tH (j:=3) e2
 have e4:((zs.map V.int).take 3++[V.int 0,V.int 0,V.int 0]).take 3=((zs.take 3++[0,0,0]).take 3).map V.int:=by
  rw [List.map_take,List.map_append,List.map_take];rfl
 rw [e4] at e3
 exact e3
theorem Dz {is:List Nat}{ρ':Rho}{σ':St}(e:ev G ρ σ x=some (v,σ')) (q:rQ is v ρ=some ρ'):exS G n (.setL is x) ρ σ=some (.next,ρ',σ'):=by
 show (ev G ρ σ x).bind _=_
 rw [e];show (rQ is v ρ).map _=_
 rw [q];rfl
theorem Hn {ρ:Rho}{σ:St}{w:List Nat}(h:ρ[8]? = some (some (.str w))):ev (GG 6) ρ σ (.conj [.cmp .isin (.str [89]) (.loc 8),.cmp .gt (.bi .len [.loc 8]) (.int 3)])=some (.bool (w.contains 89&&decide (3<w.length)),σ):=by
 have h8:=fJ (G:=GG 6) (σ:=σ) h
 have hgt:ev (GG 6) ρ σ (.cmp .gt (.bi .len [.loc 8]) (.int 3))=some (.bool (decide ((w.length:Int)>3)),σ):=by
  show (ev (GG 6) ρ σ (.bi .len [.loc 8])).bind _=_
  rw [de h8];rfl
 have:=qT (cK (G:=GG 6) (σ:=σ) (ρ:=ρ) (a:=.str [89]) (b:=.loc 8) rfl h8 (gV w 89)) hgt
 rw [show decide ((w.length:Int)>3)=decide (3<w.length) from decide_eq_decide.mpr Int.ofNat_lt] at this
 exact this
theorem FG (n:Nat):n - (n - 14)≤14:=by omega
theorem vT (a b:Nat):max (0:Int) ((a:Int) - b)=((a - b:Nat):Int):=by
 rcases Nat.le_total b a with h | h
 ·exact (Int.max_eq_right (Int.sub_nonneg_of_le (Int.ofNat_le.mpr h))).trans (Int.ofNat_sub h).symm
 ·exact (Int.max_eq_left (Int.sub_nonpos_of_le (Int.ofNat_le.mpr h))).trans (congrArg Int.ofNat (Nat.sub_eq_zero_of_le h).symm)
theorem FH {n:Nat}(h:n≤14) : -1≤(0:Int)∧(0:Int)≤1000000∧-1≤(n:Int)+1∧(n:Int)+1≤1000000:=⟨by decide,by decide,by omega,by omega⟩
theorem Bf {v1 v2 v3 v5 v6 v7 v9 v10 v11 v12 v13 v14 v15 v16 v17:Option V}{c l lb bra ket:Int}{ex:ah}(zs:List Int) (hg:iW ex) (hQ:∀ ρ σ,Q (.ret (.bool true)) ρ σ) :
 RB (GG 6) aO (k7.drop 10) (rT (some (.list (zs.map .int))) v1 v2 v3 v5 v6 v7 [] v9 v10 v11 v12 v13 v14 v15 v16 v17) (st s c l lb bra ket ex) Q:=by
 refine .for1 (v:=.list ((cut zs (some 3) (some 23)).map .int)) (σ':=st s c l lb bra ket ex) (by rw [← Dx];rfl) rfl ?_
 refine BS (cut zs (some 3) (some 23)) [] v1 v9 (aaf (Nat.le_of_eq (Nat.zero_add _)) (aaf (Nat.mul_le_mul_left 8 (FE zs)) (by decide))) fun t v1 v9 ht=>?_
 refine .set (v:=.str (t.drop (t.length - 14))) (σ':=st s c l lb bra ket ex) (Bc (w:=t) rfl (vS (dc (de rfl) rfl)) (vT _ _)) ?_
 have wl:(t.drop (t.length - 14)).length≤14:=aaf (Nat.le_of_eq aal) (FG _)
 generalize t.drop (t.length - 14)=w at wl
 have ci:=eF (Hn (ρ:=rT (some (.list (zs.map .int))) v1 v2 v3 v5 v6 v7 w v9 v10 v11 v12 v13 v14 v15 v16 v17) (σ:=st s c l lb bra ket ex) rfl) (a:=.int 1) (b:=.int 2) (v:=.int (if (w.contains 89&&decide (3<w.length))=true then (1:Nat) else (2:Nat):Nat)) (fun h=>by rw [if_pos h];rfl) (fun h=>by rw [if_neg (ne_true_of_eq_false h)];rfl)
 have la:=AX w
 generalize (if (w.contains 89&&decide (3<w.length))=true then 1 else 2)=e at la ci
 refine .set (v:=.int (w.length - e:Nat)) (σ':=st s c l lb bra ket ex) ((vS (dc (de rfl) ci)).trans (congrArg (fun z:Int=>some (V.int z,_)) (vT _ _))) ?_
 refine .for1 (v:=.rng 0 ((w.length - e:Nat)+1:Int) 1) (its:=(List.range (w.length - e+1)).map fun (i:Nat)=>V.int (0+(i:Int)*1)) (σ':=st s c l lb bra ket ex) (sX (fG (pM rfl rfl) rfl) rfl) ?_ ?_
 ·unfold eH
  dsimp only
  rw [if_pos (FH (aaf (Nat.sub_le _ _) wl)),if_pos rfl,show (((w.length - e:Nat):Int)+1 - 0).toNat=w.length - e+1 from congrArg Int.toNat (Int.sub_zero _)]
 ·exact Hj (w.length - e+1) _ w _ _ _ _ _ _ _ _ _ _ _ (by rw [List.length_map,List.length_range]) hg (Nat.lt_of_le_of_lt (by assumption) (by decide)) la fun ρ σ=>hQ _ _
theorem Bg:pE:=fun zs hl=>by
 obtain ⟨i,j,l,e3⟩:=Bd zs
 have start:aA (gw (GG 6) aO 1 17 k7) [.list (zs.map .int)] [] fun v zz=>v = .bool true:=by
  refine aw rfl ?_
  have t3:=Be (G:=GG 6) (σ:=[]) (ρ:=[some (.list (zs.map .int)),none,none,none,none,none,none,none,none,none,none,none,none,none,none,none,none,none]) zs hl rfl
  rw [e3] at t3
  refine .step (ρ':=[some (.list (zs.map .int)),none,none,none,none,none,none,none,none,none,none,none,some (.int i),some (.int j),some (.int l),none,none,none]) (σ':=[]) (Dz t3 rfl) ?_
  refine .set (v:=.int (l.fmod 8)) (σ':=[]) (lI (by decide) rfl) ?_
  obtain ⟨c,d,hp,hc,hd⟩:=Dv (σ:=[]) (ρ:=[some (.list (zs.map .int)),some (.int (l.fmod 8)),none,none,none,none,none,none,none,none,none,none,some (.int i),some (.int j),some (.int l),none,none,none]) (l:=l) rfl rfl
  refine .set hp ?_
  obtain ⟨a,ha,a1,a2⟩:=iO (σ:=[]) (ρ:=[some (.list (zs.map .int)),some (.int (l.fmod 8)),some (.str [c,d]),none,none,none,none,none,none,none,none,none,some (.int i),some (.int j),some (.int l),none,none,none]) (e:=.loc 12) (i:=i) rfl
  obtain ⟨b,hb,b1,b2⟩:=iO (σ:=[]) (ρ:=[some (.list (zs.map .int)),some (.int (l.fmod 8)),some (.str [c,d]),none,none,none,none,none,none,none,none,none,some (.int i),some (.int j),some (.int l),none,none,none]) (e:=.loc 13) (i:=j) rfl
  refine .set (v:=.str [a,b,c,d]) (σ':=[]) (fZ (l:=[a,b]) (fZ ha hb (by show 1+1≤2000;decide)) rfl (by show 2+2≤2000;decide)) (.set FA ?_)
  obtain ⟨σ1,e1,ex1,c1,bra1,ket1,g1,rfl⟩:=pV (s:=[]) (c:=0) (l:=0) (lb:=0) (bra:=0) (ket:=0) (ex:=[]) (t:=[a,b,c,d]) (x:=.loc 3) (i:=4) (ρ:=[some (.list (zs.map .int)),some (.int (l.fmod 8)),some (.str [c,d]),some (.str [a,b,c,d]),some (.obj 0),none,none,none,none,none,none,none,some (.int i),some (.int j),some (.int l),none,none,none]) (.inl rfl) (by show 4<700;decide) rfl rfl
  refine .set e1 ?_
  have sl:=pT [a,b,c,d]
  have sl:(ag [a,b,c,d]).length≤4:=sl
  obtain ⟨σ2,e2,ex2,c2,bra2,ket2,g2,rfl⟩:=pV (s:=ag [a,b,c,d]) (c:=c1) (l:=(ag [a,b,c,d]).length) (lb:=0) (bra:=bra1) (ket:=ket1) (ex:=ex1) (t:=ag [a,b,c,d]) (x:=.loc 5) (i:=4) (ρ:=[some (.list (zs.map .int)),some (.int (l.fmod 8)),some (.str [c,d]),some (.str [a,b,c,d]),some (.obj 0),some (.str (ag [a,b,c,d])),none,none,none,none,none,none,some (.int i),some (.int j),some (.int l),none,none,none]) g1 (Nat.lt_of_le_of_lt (by assumption) (by decide)) rfl rfl
  refine .set e2 (.set (cE (vs:=[.str [a,b,c,d]]) rfl (Du 5 a b c d)) ?_)
  have fl:=A6 (a:=a) (b:=b) (c:=c) (d:=d) (by
   intro x hx
   simp only [List.mem_cons,List.not_mem_nil,or_false] at hx
   rcases hx with rfl | rfl | rfl | rfl<;>lia)
  generalize ag [a,b,c,d]=s1 at *
  generalize ag s1=s2 at *
  generalize due [a,b,c,d]=D at *
  have sm:=Dy (G:=GG 6) (σ:=st s2 c2 s2.length 0 bra2 ket2 ex2) (ρ:=[some (.list (zs.map .int)),some (.int (l.fmod 8)),some (.str [c,d]),some (.str [a,b,c,d]),some (.obj 0),some (.str s1),some (.str s2),some (.list (D.map .str)),none,none,none,none,some (.int i),some (.int j),some (.int l),none,none,none]) (a:=.lst [.loc 5,.loc 6]) (b:=.ife (.cmp .eq (.loc 7) (.lst [])) (.lst [.loc 5,.loc 5]) (.loc 7)) (L:=[s1,s2]) rfl (eF (yY rfl) (fun h=>by
   rw [if_pos (List.isEmpty_iff.mp h)] at fl
   rw [fl];rfl) (fun h=>by
   rw [if_neg (fun q=>by rw [q] at h;injection h)] at fl
   rw [fl];rfl))
  refine .skip sm (.set (v:=.str []) rfl ?_)
  exact Bf zs g2 fun ρ σ=>rfl
 obtain ⟨v,σ',e,rfl⟩:=start
 exact ⟨σ',e⟩
end
end Mine
end
section
open PySem PySem.W PyProof.Rows
namespace Mine
end Mine
end
open PySem PySem.W PyProof.Rows
set_option maxRecDepth 1000000 in
set_option maxHeartbeats 8000000 in
theorem PySem.Challenge.cw_is0019_02_holds : PySem.Challenge.rw_is0019_02.Holds :=
 holds_law Mine.E0 (Mine.GV Mine.Bg)
