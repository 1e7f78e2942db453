import PyProof.Rows.All
import KE.KTryDeep
import KE.KWhile
import Wide.FinOn
import OpenK.AllK
import Wide.All
import PySem.Challenge.RW_ip0006_01
set_option Elab.async false
set_option maxRecDepth 100000
set_option maxHeartbeats 0
set_option linter.all false
set_option linter.unusedVariables false
namespace Mine
open PySem PySem.W PySem.Calls PyProof.Rows
theorem Zr {p:Prop} (h:p:=by rfl):p:=h
theorem Zd {p:Prop} (h:p:=by decide):p:=h
theorem Zo {p:Prop} (h:p:=by lia):p:=h
theorem Zs {p:Prop} (h:p:=by simp):p:=h
theorem Zk {p:Prop} (h:p:=by kernel_rfl):p:=h
theorem Zf {p:Prop} (h:p:=by first | rfl | lia):p:=h
theorem Za {p:Prop} (h:p:=by assumption):p:=h
theorem Zx {p:Prop} (h:p:=by first | assumption | (simp; assumption) | simp_all):p:=h
theorem Zz {p:Prop} (h:p:=by decide +kernel):p:=h
theorem Zy {p:Prop} (h:p:=by first | assumption | decide | (simp; assumption) | simp_all):p:=h
theorem Zw {p:Prop} (h:p:=by intros; kernel_rfl):p:=h
theorem Zn {α:Sort _} {β:α→Sort _} {f:(a:α)→β a}:∀ a,f a=f a:=fun _=>rfl
theorem Zb {a b:Nat} (h:Nat.ble a b=true:=by rfl):a≤b:=Nat.le_of_ble_eq_true h
noncomputable def Steps (pr:Program) (w:World) (n₀:Nat) (ann:Option Value) (n:Nat) {α:Type} (x:Sem α) (gd:Bool→Bool) (lv:List Value→List Value) (B:List Frame) (s:Shared) (c:Code) (p:Pos) (a:α) (s':Shared) (p':Pos):Prop :=
  ∀ (K:α→Sem Fin) (H:Value→Sem Fin) (N:Nat) (r:Shared),topRun treeTable pr w n₀ ann N s' ⟨K a,c,p',B⟩=some r→topRun treeTable pr w n₀ ann (n+N) s ⟨x.wrap K H gd lv,c,p,B⟩=some r
section
variable {pr:Program} {w:World} {n₀:Nat} {ann:Option Value} {α β:Type} {gd:Bool→Bool} {lv:List Value→List Value} {B:List Frame} {s s' s₁:Shared} {c:Code} {p p' p₁:Pos} {a:α} {b:β} {n k:Nat}
theorem Steps.pure:Steps pr w n₀ ann 0 (Pure.pure a:Sem α) gd lv B s c p a s p:=fun K H N r h=>by
  rw [Nat.zero_add]; exact h
theorem Steps.mono {x:Sem α} (h:Steps pr w n₀ ann n x gd lv B s c p a s' p') (hk:n≤k):Steps pr w n₀ ann k x gd lv B s c p a s' p':=fun K H N r q=>by
  have:=topRun_mono (k - n) _ _ _ _ (h K H N r q)
  rwa [show n+N+(k - n)=k+N by lia] at this
theorem bind_wrap (m:Sem α) (f:α→Sem β) {γ:Type} (K:β→Sem γ) (H:Value→Sem γ):(m >>= f).wrap K H gd lv=m.wrap (fun a=>(f a).wrap K H gd lv) H gd lv:=by
  rw [Sem.bind_eq_wrap',Sem.wrap_wrap]; rfl
theorem Steps.bind {m:Sem α} {f:α→Sem β} (h:Steps pr w n₀ ann n m gd lv B s c p a s₁ p₁) (h':Steps pr w n₀ ann k (f a) gd lv B s₁ c p₁ b s' p'):Steps pr w n₀ ann (n+k) (m >>= f) gd lv B s c p b s' p':=fun K H N r q=>by
  rw [bind_wrap,Nat.add_assoc]
  exact h _ H _ _ (h' K H N r q)
theorem Steps.keep {m:Sem α} {vs:List Value} (h:Steps pr w n₀ ann n m gd (fun l=>lv (vs++l)) B s c p a s' p'):Steps pr w n₀ ann n (m.keep vs) gd lv B s c p a s' p':=fun K H N r q=>by
  have e:(m.keep vs).wrap K H gd lv=m.wrap K H gd (fun l=>lv (vs++l)):=by
    rw [Sem.keep_eq_wrap,Sem.wrap_wrap]; rfl
  rw [e]; exact h K H N r q
theorem Steps.of_seg {x:Sem α} {res:α→Flow} (hB:splitAtGen B=none) (inj:∀ a',res a'=res a→a'=a)
    (h:segRun treeTable pr w n₀ ann B.length n s ⟨x.wrap (fun a=>.pure (.done (res a))) deadEnd gd lv,c,p,B⟩=some (res a,s',c,p')) :
    Steps pr w n₀ ann n x gd lv B s c p a s' p':=fun K H N r q=>by
  obtain ⟨a',ha,hN⟩:=seg_top (tb:=treeTable) (p:=pr) (w:=w) (n₀:=n₀) (ann:=ann) (res:=res) (K':=K) (H':=H) (gd:=gd) (lv:=lv) hB n s ⟨x.wrap (fun a=>.pure (.done (res a))) deadEnd gd lv,c,p,B⟩ ⟨x.wrap K H gd lv,c,p,B⟩ _ _ _ _ ⟨rfl,rfl,.inl ⟨rfl,rfl,x,rfl,rfl⟩⟩ h
  obtain rfl:=inj a' ha
  exact hN N r q
theorem Steps.of_segT {x:Sem α} {res:α→Flow} {t t':SharedT} (hB:splitAtGen B=none) (inj:∀ a',res a'=res a→a'=a)
    (h:segRunT treeTable pr w n₀ ann B.length n t ⟨x.wrap (fun a=>.pure (.done (res a))) deadEnd gd lv,c,p,B⟩=some (res a,t',c,p')) :
    Steps pr w n₀ ann n x gd lv B t.abs c p a t'.abs p':=Steps.of_seg hB inj (segRun_of h)
theorem Steps.of_flow {x:Sem Flow} {f:Flow} {t t':SharedT} (hB:splitAtGen B=none)
    (h:segRunT treeTable pr w n₀ ann B.length n t ⟨x.wrap doneF deadEnd gd lv,c,p,B⟩=some (f,t',c,p')) :
    Steps pr w n₀ ann n x gd lv B t.abs c p f t'.abs p':=Steps.of_segT (res:=id) hB (fun _ e=>e) h
theorem Steps.node {x y:Sem α} {k:Nat} (h:∀ K H,step (denote treeTable) pr w s ⟨x.wrap K H gd lv,c,p,B⟩=.go s₁ ⟨y.wrap K H gd lv,c,p₁,B⟩) (ok:∀ K H,stepOk n₀ ann ⟨x.wrap K H gd lv,c,p,B⟩=true) (ht:∀ K H,through ⟨x.wrap K H gd lv,c,p,B⟩=false)
    (q:Steps pr w n₀ ann k y gd lv B s₁ c p₁ a s' p'):Steps pr w n₀ ann (k+1) x gd lv B s c p a s' p':=fun K H N r z=>by
  rw [show k+1+N=k+N+1 by lia]
  unfold topRun
  rw [ht,ok,h]
  exact q K H N r z
theorem Steps.at_ {q:Pos} {k:Unit→Sem α} {m:Nat} (z:Steps pr w n₀ ann m (k ()) gd lv B s c q a s' p'):Steps pr w n₀ ann (m+1) (.at q k) gd lv B s c p a s' p':=.node (fun _ _=>rfl) (fun _ _=>rfl) (fun _ _=>Bool.and_false _) z
theorem Steps.rule_ {t:String} {k:Unit→Sem α} {m:Nat} (z:Steps pr w n₀ ann m (k ()) gd lv B s c p a s' p'):Steps pr w n₀ ann (m+1) (.rule t k) gd lv B s c p a s' p':=.node (fun _ _=>rfl) (fun _ _=>rfl) (fun _ _=>Bool.and_false _) z
theorem Steps.point_ {l:List Value} {k:Unit→Sem α} {m:Nat} (z:Steps pr w n₀ ann m (k ()) gd lv B s c p a s' p'):Steps pr w n₀ ann (m+1) (.point l k) gd lv B s c p a s' p':=.node (fun _ _=>rfl) (fun _ _=>rfl) (fun _ _=>Bool.and_false _) z
theorem Steps.ask_ {k:Setting→Sem α} {m:Nat} (z:Steps pr w n₀ ann m (k ⟨pr,w.params⟩) gd lv B s c p a s' p'):Steps pr w n₀ ann (m+1) (.ask k) gd lv B s c p a s' p':=.node (fun _ _=>rfl) (fun _ _=>rfl) (fun _ _=>Bool.and_false _) z
theorem Steps.fresh_ {k:Tok→Sem α} {m:Nat} (z:Steps pr w n₀ ann m (k s.toks) gd lv B { s with toks:=s.toks+1 } c p a s' p'):Steps pr w n₀ ann (m+1) (.fresh k) gd lv B s c p a s' p':=.node (fun _ _=>rfl) (fun _ _=>rfl) (fun _ _=>Bool.and_false _) z
theorem Steps.alloc_ {o:Obj} {k:Addr→Sem α} {m:Nat} (z:Steps pr w n₀ ann m (k s.heap.objs.size) gd lv B { s with heap:=s.heap.push o } c p a s' p'):Steps pr w n₀ ann (m+1) (.alloc o k) gd lv B s c p a s' p':=.node (fun _ _=>rfl) (fun _ _=>rfl) (fun _ _=>Bool.and_false _) z
theorem Steps.load_ {d:Addr} {part:Option Value} {k:Obj→Sem α} {o:Obj} {m:Nat} (ho:s.heap.get? d=some o) (z:Steps pr w n₀ ann m (k o) gd lv B s c p a s' p'):Steps pr w n₀ ann (m+1) (.load d part k) gd lv B s c p a s' p' :=
  .node (fun _ _=>by show step _ _ _ _ ⟨.load d part _,c,p,B⟩=_; simp only [step,ho]) (fun _ _=>rfl) (fun _ _=>Bool.and_false _) z
theorem Steps.update_ {d:Addr} {part:Option Value} {f:Obj→Obj} {k:Unit→Sem α} {o:Obj} {m:Nat} (ho:s.heap.get? d=some o) (hn:n₀≤d) (z:Steps pr w n₀ ann m (k ()) gd lv B { s with heap:=s.heap.update d f } c p a s' p'):Steps pr w n₀ ann (m+1) (.update d part f k) gd lv B s c p a s' p' :=
  .node (fun _ _=>by show step _ _ _ _ ⟨.update d part f _,c,p,B⟩=_; simp only [step,ho,Option.isSome_some,if_true]) (fun _ _=>by
    show (true && (Nat.ble n₀ d || d == mainNs || d == cStatics || ann == some (.ref d)))=true
    rw [show Nat.ble n₀ d=true from Nat.ble_eq_true_of_le hn]; rfl) (fun _ _=>Bool.and_false _) z
theorem nR {env:Env}:Steps pr w n₀ ann 0 (execs [] env) gd lv B s c p .next s p:=Steps.pure
theorem eF {env:Env} {st:Stmt} {rest:List Stmt} {f:Flow} (h:Steps pr w n₀ ann n (exec st env) gd lv B s c p .next s₁ p₁) (h':Steps pr w n₀ ann k (execs rest env) gd lv B s₁ c p₁ f s' p') :
    Steps pr w n₀ ann (n+k) (execs (st::rest) env) gd lv B s c p f s' p':=fun K H N r q=>by
  rw [execs_cons_wrap,Nat.add_assoc]
  exact h _ H _ _ (h' K H N r q)
theorem fS {env:Env} {l rest:List Stmt} {f:Flow} (h:Steps pr w n₀ ann n (execs l env) gd lv B s c p .next s₁ p₁) (h':Steps pr w n₀ ann k (execs rest env) gd lv B s₁ c p₁ f s' p') :
    Steps pr w n₀ ann (n+k) (execs (l++rest) env) gd lv B s c p f s' p':=fun K H N r q=>by
  rw [execs_app_wrap,Nat.add_assoc]
  exact h _ H _ _ (h' K H N r q)
end
noncomputable def bK (h:Heap):List Obj→Heap
  | []=>h
  | o::r=>bK (h.push o) r
theorem gI (h:Heap):∀ (l r:List Obj),bK h (l++r)=bK (bK h l) r
  | [],_=>rfl
  | o::l,r=>gI (h.push o) l r
theorem eK:∀ (l:List Obj) (h:Heap),(bK h l).objs=h.objs++l.toArray
  | [],h=>by simp [bK]
  | o::l,h=>by
    rw [bK,eK l]
    show h.objs.push o++l.toArray=_
    simp
theorem fV:∀ (l:List Obj) (h:Heap),(bK h l).life=h.life
  | [],_=>rfl
  | o::l,h=>fV l (h.push o)
theorem iJ (l:List Obj) (h:Heap):(bK h l).objs.size=h.objs.size+l.length:=by rw [eK]; simp
theorem dI {h:Heap} {a:Addr} {o:Obj}:∀ {l:List Obj},h.get? a=some o→(bK h l).get? a=some o
  | [],e=>e
  | _::l,e=>dI (l:=l) (Heap.get?_push_of_some _ e)
theorem nL {h:Heap} {a:Addr} {o:Obj} (e:h.objs[a]?=some o) (hf:alive o=some o):h.get? a=some o:=by
  unfold Heap.get?
  rw [e]
  obtain ⟨c,d,dt,sl⟩:=o
  cases dt <;> first | rfl | cases hf
theorem mV {h:Heap} {l:List Obj} {i:Nat} {o:Obj} (e:l[i]?=some o) (hf:alive o=some o):(bK h l).get? (h.objs.size+i)=some o:=by
  refine nL ?_ hf
  rw [eK,Array.getElem?_append_right (by lia),Nat.add_sub_cancel_left,List.getElem?_toArray]
  exact e
noncomputable def modAt:List Obj→Nat→(Obj→Obj)→List Obj
  | [],_,_=>[]
  | o::r,0,f=>f o::r
  | o::r,i+1,f=>o::modAt r i f
theorem modAt_eq:∀ (l:List Obj) (i:Nat) (f:Obj→Obj),modAt l i f=l.modify i f
  | [],_,_=>by simp [modAt]
  | o::r,0,f=>by simp [modAt]
  | o::r,i+1,f=>by simp [modAt,modAt_eq r i f]
theorem heap_eq {h h':Heap} (e:h.objs=h'.objs) (l:h.life=h'.life):h=h':=by cases h; cases h'; cases e; cases l; rfl
theorem mO (h:Heap) (a:Addr) (f:Obj→Obj):(h.update a f).objs=h.objs.modify a f:=by cases h; rfl
theorem mP (h:Heap) (a:Addr) (f:Obj→Obj):(h.update a f).life=h.life:=by cases h; rfl
theorem pushAll_update (h:Heap) (l:List Obj) (i:Nat) (f:Obj→Obj):(bK h l).update (h.objs.size+i) f=bK h (modAt l i f):=by
  refine heap_eq ?_ (by rw [mP,fV,fV])
  rw [mO,eK,eK,modAt_eq]
  apply Array.ext_getElem?
  intro j
  rw [Array.getElem?_modify]
  by_cases hj:j < h.objs.size
  · rw [Array.getElem?_append_left hj,Array.getElem?_append_left hj,if_neg (by lia)]
  · rw [Array.getElem?_append_right (by lia),Array.getElem?_append_right (by lia),List.getElem?_toArray,List.getElem?_toArray,List.getElem?_modify]
    by_cases e:h.objs.size+i=j
    · have q:i=j - h.objs.size:=by lia
      have q':h.objs.size+(j - h.objs.size)=j:=by lia
      simp [q,q']
    · have q:¬ i=j - h.objs.size:=by lia
      simp [q,e]
structure SA where
  n:Nat
  news:List Obj
  gens:Array GenState
  drawn:Drawn
  toks:Nat
  os:OsState
noncomputable def SA.at (s:SA) (h:Heap):Shared:=⟨bK h s.news,s.gens,s.drawn,s.toks,s.os⟩
theorem nY {o o':Obj} (e:alive o=some o'):o'=o∧alive o=some o:=by
  obtain ⟨c,d,dt,sl⟩:=o
  cases dt <;> first | (cases e; exact ⟨rfl,rfl⟩) | cases e
structure SI where
  es:Array (Int×Value)
  ep:Nat
  t:SetTable
noncomputable def SI.fresh (led:Bool):SI:=⟨#[],0,.fresh 0 0 led⟩
noncomputable def SI.put (P:Params) (S:SI) (x:Str) (tk:Tok):SI :=
  let r:=layNew S.t S.es (PyData.keyHash P x) (.str x tk)
  let t:SetTable:={ r.2.1 with plain:=false }
  match !r.2.2.1 && t.tooFull with
  | true=>let q:=relayAll t r.1 (SetTable.grown r.1.size); ⟨q.1,S.ep+1+1,q.2.1⟩
  | false=>⟨r.1,S.ep+1,t⟩
noncomputable def SI.puts (P:Params):SI→Nat→List Nat→SI
  | S,_,[]=>S
  | S,tk,c::r=>SI.puts P (S.put P ⟨⟨[c]⟩⟩ tk) (tk+1) r
noncomputable def SI.shut (S:SI):SI:=⟨S.es,S.ep+1,{ S.t with led:=false }⟩
noncomputable def SI.data (S:SI):Data:=.set S.es S.ep S.t
noncomputable def setI (P:Params) (tk:Nat) (cs:List Nat):SI:=((SI.fresh (!P.followText "set-order")).puts P tk cs).shut
noncomputable def vowI (P:Params):SI:=setI P 485 [97,101,105,111,117]
noncomputable def digI (P:Params):SI:=setI P 498 [48,49,50,51,52,53,54,55,56,57]
noncomputable def x230 (P:Params):Obj:=⟨.type "set",none,(vowI P).data,#[]⟩
noncomputable def x231 (P:Params):Obj:=⟨.type "set",none,(digI P).data,#[]⟩
noncomputable def SI.Ok (P:Params) (S:SI) (l:List (Nat×Tok)):Prop :=
  List.Perm S.es.toList (l.map fun x=>(PyData.keyHash P ⟨⟨[x.1]⟩⟩,Value.str ⟨⟨[x.1]⟩⟩ x.2))∧S.t.fits S.es.size=true
theorem SI.ok_fresh (P:Params) (led:Bool):(SI.fresh led).Ok P []:=⟨List.Perm.refl _,rfl⟩
theorem SI.ok_put {P:Params} {S:SI} {l:List (Nat×Tok)} (h:S.Ok P l) (c:Nat) (tk:Tok):(S.put P ⟨⟨[c]⟩⟩ tk).Ok P (l++[(c,tk)]):=by
  have p1:=layNew_perm S.t S.es (PyData.keyHash P ⟨⟨[c]⟩⟩) (.str ⟨⟨[c]⟩⟩ tk)
  have f1:=layNew_fits S.t S.es (PyData.keyHash P ⟨⟨[c]⟩⟩) (.str ⟨⟨[c]⟩⟩ tk)
  unfold SI.put
  dsimp only
  generalize layNew S.t S.es (PyData.keyHash P ⟨⟨[c]⟩⟩) (.str ⟨⟨[c]⟩⟩ tk)=r at p1 f1
  have q1:List.Perm r.1.toList ((l++[(c,tk)]).map fun x=>(PyData.keyHash P ⟨⟨[x.1]⟩⟩,Value.str ⟨⟨[x.1]⟩⟩ x.2)):=by
    rw [List.map_append]
    refine p1.trans ?_
    rw [Array.toList_push]
    exact h.1.append_right _
  have f1':({ r.2.1 with plain:=false }:SetTable).fits r.1.size=true:=f1
  split
  · have p2:=relayAll_perm { r.2.1 with plain:=false } r.1 (SetTable.grown r.1.size)
    have f2:=relayAll_fits { r.2.1 with plain:=false } r.1 (SetTable.grown r.1.size)
    exact ⟨p2.trans q1,f2⟩
  · exact ⟨q1,f1'⟩
theorem SI.ok_puts {P:Params}:∀ {cs:List Nat} {S:SI} {l:List (Nat×Tok)} {tk:Tok},S.Ok P l→(S.puts P tk cs).Ok P (l++cs.zipIdx tk)
  | [],S,l,tk,h=>by simpa [SI.puts] using h
  | c::r,S,l,tk,h=>by
    have:=SI.ok_puts (cs:=r) (tk:=tk+1) (SI.ok_put h c tk)
    simpa [SI.puts,List.zipIdx_cons] using this
theorem SI.ok_shut {P:Params} {S:SI} {l:List (Nat×Tok)} (h:S.Ok P l):S.shut.Ok P l:=h
theorem setI_ok (P:Params) (tk:Nat) (cs:List Nat):(setI P tk cs).Ok P (cs.zipIdx tk):=by
  have:=SI.ok_puts (cs:=cs) (tk:=tk) (SI.ok_fresh P (!P.followText "set-order"))
  exact SI.ok_shut (by simpa using this)
noncomputable abbrev u (l:List Nat):Str:=⟨⟨l⟩⟩
noncomputable abbrev ent (P:Params) (x:Str) (t:Tok) (v:Value):DictEntry:=⟨PyData.keyHash P x,.str x t,v⟩
noncomputable abbrev pw:Program:=PySem.Challenge.pw_ip0006_01
noncomputable def stM (i:Nat):Stmt:=(pw.main.body[i]?).getD default
noncomputable def clsBody (i:Nat):List Stmt:=match stM i with | .ClassDef _ _ _ b _ _ _ _ _ _ _=>b | _=>[]
noncomputable def stC (i j:Nat):Stmt:=((clsBody i)[j]?).getD default
noncomputable def fnD (st:Stmt) (qual:Str) (g:Addr) (pm cd:Value):FuncData:=match st with
  | .FunctionDef name args body _ _ _ scope _ _ _=>{ name,qualname:=qual,params:=args,body:=.stmts body,scope,globals:=g,closure:=[],defaults:=.none,kwdefaults:=.none,doc:=.none,pyModule:=pm,annotations:=none,code:=cd,closureTuple:=.none,builtins:=0 }
  | _=>default
noncomputable def cnm (st:Stmt):Str:=match st with
  | .ClassDef n _ _ _ _ _ _ _ _ _ _=>n
  | _=>⟨⟨[]⟩⟩
noncomputable def fnm (st:Stmt):Str:=match st with
  | .FunctionDef n _ _ _ _ _ _ _ _ _=>n
  | _=>cnm st
noncomputable def fvs (st:Stmt):List Str:=match st with
  | .FunctionDef _ _ _ _ _ _ sc _ _ _=>(sc.names.filter fun x=>match x.2 with | .local=>true | _=>false).map (·.1)
  | _=>[]
noncomputable def fac (st:Stmt):Nat:=match st with
  | .FunctionDef _ a _ _ _ _ _ _ _ _=>a.args.length
  | _=>0
noncomputable def elt:PySem.Expr→Str
  | .Constant (.str x) _ _=>x
  | _=>⟨⟨[]⟩⟩
noncomputable def els:PySem.Expr→List PySem.Expr
  | .List l _=>l
  | .Set l _ _=>l
  | _=>[]
noncomputable def eNm:PySem.Expr→Str
  | .Name x _=>x
  | _=>⟨⟨[]⟩⟩
noncomputable def tp (st:Stmt):Str×List PySem.Expr:=match st with
  | .Assign l v _=>(eNm (l.headD default),els v)
  | _=>(fnm st,[])
noncomputable def elts (st:Stmt):List Str:=(tp st).2.map elt
noncomputable abbrev zo (c:String) (d:Data):Obj:=⟨.type c,none,d,⟨[]⟩⟩
noncomputable abbrev zt (l:List Value):Obj:=zo "tuple" (.seq ⟨l⟩ 0)
noncomputable abbrev zf (l:List Value):Obj:=⟨.none,none,.fields ⟨l⟩,⟨[]⟩⟩
noncomputable abbrev zi (n:Nat):Value:=.int (Int.ofNat n) 0
noncomputable abbrev zd (l:List DictEntry) (n:Nat):Obj:=zo "dict" (.dict ⟨l⟩ n)
noncomputable def nms:Nat→List Str→List Value
  | _,[]=>[]
  | t,x::l=>.str x t::nms (t+1) l
noncomputable abbrev fl:Str:=u [47,99,108,97,105,109,47,99,117,116,46,112,121]
noncomputable def cdO (nm q:Str) (t ln ac k n:Nat) (b:Bool) (n2 n3 n4:Value) (tl:Nat):Obj :=
  zo "code" (.fields ⟨[.str nm t,.str q (t+1),.str fl (t+2),zi ln,zi ac,zi 0,zi 0,zi k,.ref n,.bool b,zi 181,.ref (n+1),.none,n2,n3,n4,zi tl,zi ln,.str fl (tl+1)]⟩)
noncomputable def dfO (st:Stmt) (q md:Str) (mt n t:Nat):List Obj :=
  [zt [],zf [],zt (nms (t+3) (fvs st)),zt [],⟨.none,none,.func (fnD st q 0 .none .none),⟨[]⟩⟩,
   cdO (fnm st) q t st.pos.line (fac st) 3 n true (.ref (n+2)) (.ref (n+3)) (.ref (n+4)) (t+3+(fvs st).length),
   zo "function" (.func (fnD st q 3 (.str md mt) (.ref (n+5))))]
noncomputable def dfN (st:Stmt) (q md:Str) (mt n t:Nat):List Obj :=
  [zt [],zf [],⟨.none,none,.func (fnD st q 0 .none .none),⟨[]⟩⟩,
   cdO (fnm st) q t st.pos.line (fac st) 3 n true .none .none (.ref (n+2)) (t+3),
   zo "function" (.func (fnD st q 3 (.str md mt) (.ref (n+3))))]
noncomputable def qn (c:Nat) (st:Stmt):Str:=⟨⟨(fnm (stM c)).cps.toList++46::(fnm st).cps.toList⟩⟩
noncomputable def dfs (c:Nat) (md:Str) (mt:Nat):Nat→Nat→List Nat→List Obj
  | _,_,[]=>[]
  | j,n,t::r=>dfO (stC c j) (qn c (stC c j)) md mt n t++dfs c md mt (j+1) (n+7) r
noncomputable def dfl (c:Nat):Nat→Nat→List Nat→List Value
  | _,_,[]=>[]
  | j,n,_::r=>zi (stC c j).pos.line::zi 4::.ref (n+5)::dfl c (j+1) (n+7) r
noncomputable def dfe (P:Params) (c:Nat):Nat→Nat→List Nat→List DictEntry
  | _,_,[]=>[]
  | j,n,t::r=>ent P (fnm (stC c j)) (t+5+(fvs (stC c j)).length) (.ref (n+6))::dfe P c (j+1) (n+7) r
noncomputable def mdB:Str:=u [115,110,111,119,98,97,108,108,115,116,101,109,109,101,114,46,98,97,115,101,115,116,101,109,109,101,114]
noncomputable def mdA:Str:=u [115,110,111,119,98,97,108,108,115,116,101,109,109,101,114,46,97,109,111,110,103]
noncomputable def mdE:Str:=u [115,110,111,119,98,97,108,108,115,116,101,109,109,101,114,46,101,115,112,101,114,97,110,116,111,95,115,116,101,109,109,101,114]
noncomputable def mdL:Str:=u [108,97,119,95,105,112,48,48,48,54,95,48,49]
noncomputable def mdM:Str:=u [95,95,109,97,105,110,95,95]
noncomputable abbrev kMo:Str:=u [95,95,109,111,100,117,108,101,95,95]
noncomputable abbrev kQu:Str:=u [95,95,113,117,97,108,110,97,109,101,95,95]
noncomputable abbrev kFl:Str:=u [95,95,102,105,114,115,116,108,105,110,101,110,111,95,95]
noncomputable abbrev kSa:Str:=u [95,95,115,116,97,116,105,99,95,97,116,116,114,105,98,117,116,101,115,95,95]
noncomputable abbrev kDi:Str:=u [95,95,100,105,99,116,95,95]
noncomputable abbrev kWe:Str:=u [95,95,119,101,97,107,114,101,102,95,95]
noncomputable abbrev kDo:Str:=u [95,95,100,111,99,95,95]
noncomputable abbrev kNa:Str:=u [95,95,110,97,109,101,95,95]
noncomputable abbrev kMod:Str:=u [60,109,111,100,117,108,101,62]
noncomputable abbrev bpr:Obj:=zo "builtin_function_or_method" (.fields ⟨[.builtin "type.__prepare__",.type "type"]⟩)
noncomputable abbrev bis (a:Nat):Obj:=zo "builtin_function_or_method" (.fields ⟨[.builtin "object.__init_subclass__",.ref a]⟩)
noncomputable abbrev sup (a:Nat):Obj:=zo "super" (.fields ⟨[.ref a,.ref a,.ref a]⟩)
noncomputable abbrev gsD (a t:Nat):Obj:=zo "getset_descriptor" (.fields ⟨[.str kDi t,.ref a,.builtin "function.__dict__",.builtin "function.__dict__#set"]⟩)
noncomputable abbrev gsW (a t:Nat):Obj:=zo "getset_descriptor" (.fields ⟨[.str kWe t,.ref a,.builtin "ExceptionGroup.__weakref__",.none]⟩)
noncomputable abbrev frO (c n:Nat) (md:Str) (mt:Nat):Obj:=⟨.type "frame",none,.plain,⟨[some (.ref c),some (.ref 3),some (.ref n),none,some (.str md mt),none,some (.ref 0)]⟩⟩
noncomputable abbrev tyO (nm:Str) (b m:List Value) (ns:Nat) (sb:List Value) (b0:Option Value) (t t':Nat) (nw:String):Obj :=
  ⟨.type "type",none,.cls ⟨nm,b,m,ns,nm,true,[],sb,false,none,false⟩,⟨[b0,none,some (.str nm t),some (.str nm t'),some (.builtin nw),some (.bool true)]⟩⟩
noncomputable abbrev cl2 (P:Params) (md:Str) (mt t ln:Nat):List DictEntry:=[ent P kMo t (.str md mt),ent P kFl (t+4) (.int (Int.ofNat ln) (t+3))]
noncomputable abbrev cl3 (P:Params) (md:Str) (mt t ln:Nat) (nm:Str):List DictEntry:=[ent P kMo t (.str md mt),ent P kQu (t+2) (.str nm (t+1)),ent P kFl (t+4) (.int (Int.ofNat ln) (t+3))]
noncomputable def lab (P:Params) (nm:Str) (n t ln:Nat):List Obj :=
  [zt [.type "Exception"],bpr,zd (cl3 P mdE 471 (t+7) ln nm++[ent P kSa (t+12) (.ref (n+7))]) 4,zt [],zf [],cdO nm nm (t+2) ln 0 0 (n+3) false .none .none .none (t+5),
   frO (n+5) (n+2) mdE 471,zt [],zd (cl2 P mdE 471 (t+7) ln++[ent P kSa (t+12) (.ref (n+7)),ent P kWe (t+14) (.ref (n+10)),ent P kDo (t+15) .none]) 3,
   tyO nm [.type "Exception"] [.ref (n+9),.type "Exception",.type "BaseException",.type "object"] (n+8) [] (some (.ref n)) t (t+8) "Exception.__new__",gsW (n+9) (t+13),sup (n+9),bis (n+9)]
noncomputable def tri (k:Nat):List (Nat×Nat)→List Value
  | []=>[]
  | (a,b)::r=>zi a::zi k::.ref b::tri k r
noncomputable def l12:List (Nat×Nat):=[(1,20),(5,27),(197,207),(204,228),(616,680),(618,693),(621,706),(623,713),(625,720),(627,727),(629,734),(640,750),(643,758),(649,763),(713,768),(720,775)]
noncomputable abbrev x12 (k:Nat):Obj:=zf (tri 0 (l12.take k))
noncomputable def x2 (P:Params):Obj:=⟨.none,none,.dict ⟨[ent P (u [116,121,112,101,46,95,95,115,117,98,99,108,97,115,115,101,115,95,95,46,69,120,99,101,112,116,105,111,110,46,48]) 2351 (.int 684 0),ent P (u [116,121,112,101,46,95,95,115,117,98,99,108,97,115,115,101,115,95,95,46,69,120,99,101,112,116,105,111,110,46,110]) 2352 (.int 2 0),ent P (u [116,121,112,101,46,95,95,115,117,98,99,108,97,115,115,101,115,95,95,46,69,120,99,101,112,116,105,111,110,46,49]) 2371 (.int 697 0)]⟩ 3,⟨[]⟩⟩
noncomputable def bnm (st:Stmt):Str:=(tp st).1
noncomputable def e3s (P:Params):List (Nat×Nat×Nat)→List DictEntry
  | []=>[]
  | (i,t,a)::r=>ent P (bnm (stM i)) t (.ref a)::e3s P r
noncomputable def e3 (P:Params):List DictEntry:=[ent P kDo 166 .none,ent P (u [95,95,112,97,99,107,97,103,101,95,95]) 167 .none,ent P (u [95,95,108,111,97,100,101,114,95,95]) 168 (.builtin "__main__.__loader__#opaque"),ent P (u [95,95,115,112,101,99,95,95]) 169 .none,ent P (u [95,95,97,110,110,111,116,97,116,105,111,110,115,95,95]) 170 (.ref 6),ent P (u [95,95,98,117,105,108,116,105,110,115,95,95]) 171 (.ref 4),ent P (u [95,95,102,105,108,101,95,95]) 173 (.str fl 172),ent P (u [95,95,99,97,99,104,101,100,95,95]) 174 .none] ++
  e3s P [(0,193,21),(2,435,197),(4,470,218),(6,2334,672),(7,2354,684),(8,2374,697),(10,2382,707),(11,2388,714),(12,2394,721),(13,2400,728),(14,2406,735),(15,2424,736),(16,2431,737),(17,2452,738),(18,2461,739),(19,2486,740),(20,2511,741),(21,2518,742),(22,2521,743),(23,2541,744),(24,2547,751),(25,2616,752),(26,2627,759),(27,2633,764),(28,2639,769),(29,2649,776)]
noncomputable def x3 (P:Params) (md:Str) (mt k:Nat):Obj:=zd (ent P kNa 165 (.str md mt)::(e3 P).take k) (k+1)
noncomputable def o3 (P:Params):Obj:=x3 P mdE 471 11
noncomputable def nmB:Str:=fnm (stM 2)
noncomputable def nmA:Str:=fnm (stM 4)
noncomputable def nmE:Str:=fnm (stM 6)
noncomputable abbrev tkB:List Nat:=[208,215,223,230,238,246,254,262,270,278,286,294,302,310,318,338,358,369,377,384,394,401,408]
noncomputable abbrev tkE:List Nat:=[519,529,536,544,552,561,568,575,588,597,607]
noncomputable def eB (P:Params):List DictEntry:=dfe P 2 0 29 tkB++[ent P (fnm (stC 2 23)) 421 (.ref 194),ent P kSa 428 (.ref 195)]
noncomputable def x197 (sb:List Value):Obj:=tyO nmB [.type "object"] [.ref 197,.type "object"] 196 sb none 196 204 "object.__new__"
noncomputable def o214:Obj:=cdO (fnm (stC 4 0)) (qn 4 (stC 4 0)) 450 199 4 3 209 true (.ref 211) (.ref 212) (.ref 213) 457
noncomputable def o215:Obj:=zo "function" (.func (fnD (stC 4 0) (qn 4 (stC 4 0)) 3 (.str mdA 436) (.ref 214)))
noncomputable def o217 (P:Params):Obj:=zd (cl2 P mdA 436 445 197++[ent P (fnm (stC 4 0)) 459 (.ref 215),ent P kSa 463 (.ref 216),ent P kDi 465 (.ref 219),ent P kWe 467 (.ref 220),ent P kDo 468 .none]) 4
noncomputable def o218:Obj:=tyO nmA [.type "object"] [.ref 218,.type "object"] 217 [] none 438 446 "object.__new__"
noncomputable def base (P:Params) (a2 a3 a12 a197:Obj):List Obj :=
  [boot_o_0 P,boot_o_1 P,a2,a3,boot_o_4 P,boot_o_5 P,boot_o_6 P,boot_o_7 P,boot_o_8 P,boot_o_9 P,boot_o_10 P,zt [],a12,cdO kMod kMod 182 1 0 0 11 false .none .none .none 185,frO 13 3 mdM 164] ++
  (dfO (stM 0) (fnm (stM 0)) mdM 164 15 187 ++
  ([zt [],bpr,zd (cl3 P mdB 194 203 5 nmB++eB P) 28,zt [],zf (dfl 2 0 29 tkB++[zi 194,zi 4,.ref 193]),cdO nmB nmB 198 5 0 0 25 false .none .none .none 201,frO 27 24 mdB 194] ++
  (dfs 2 mdB 194 0 29 tkB++(dfN (stC 2 23) (qn 2 (stC 2 23)) mdB 194 190 416 ++
  ([zt (nms 422 [u [98,114,97],u [99,117,114,114,101,110,116],u [99,117,114,115,111,114],u [107,101,116],u [108,105,109,105,116],u [108,105,109,105,116,95,98,97,99,107,119,97,114,100]]),zd (cl2 P mdB 194 203 5++(eB P++[ent P kDi 430 (.ref 198),ent P kWe 432 (.ref 199),ent P kDo 433 .none])) 4,a197,gsD 197 429,gsW 197 431,sup 197,bis 197,
    zt [],bpr,zd (cl3 P mdA 436 445 197 nmA++[ent P (fnm (stC 4 0)) 459 (.ref 215),ent P kSa 463 (.ref 216)]) 5,zt [],zf (tri 4 [(199,214)]),cdO nmA nmA 440 197 0 0 205 false .none .none .none 443,frO 207 204 mdA 436,
    zt [],zf [],zt (nms 453 (fvs (stC 4 0))),zt [],⟨.none,none,.func (fnD (stC 4 0) (qn 4 (stC 4 0)) 0 .none .none),⟨[]⟩⟩,o214,o215,
    zt (nms 460 [u [114,101,115,117,108,116],u [115],u [115,117,98,115,116,114,105,110,103,95,105]]),o217 P,o218,gsD 218 464,gsW 218 466,sup 218,bis 218])))))
noncomputable def LS0 (P:Params):List Obj:=(base P (boot_o_2 P) (boot_o_3 P) (x12 0) (x197 [])).take 15
noncomputable def LS6 (P:Params):List Obj:=base P (boot_o_2 P) (o3 P) (x12 3) (x197 [])
noncomputable def atoE (P:Params):List (Nat×Nat×Nat)→List DictEntry
  | []=>[]
  | (j,t,a)::r=>ent P (bnm (stC 6 j)) t (.ref a)::atoE P r
noncomputable def e225 (P:Params):List DictEntry :=
  ent P (bnm (stC 6 0)) 495 (.ref 230)::ent P (bnm (stC 6 1)) 497 (.str (u [97,111,117]) 496)::ent P (bnm (stC 6 2)) 518 (.ref 231)::(dfe P 6 3 232 tkE ++
  (atoE P [(14,845,360),(15,934,379),(16,1184,431),(17,1481,492),(18,1512,499),(19,1871,572),(20,1917,582),(21,1948,589),(22,2051,611),(23,2326,669)]++[ent P kSa 2331 (.ref 670)]))
noncomputable def x225 (k:Nat) (P:Params):Obj:=zd (cl3 P mdE 471 480 204 nmE++(e225 P).take k) (k+3)
noncomputable def mid (P:Params) (k:Nat) (a227:Obj):List Obj:=[zt [.ref 197],bpr,x225 k P,zt [],a227,cdO nmE nmE 475 204 0 0 226 false .none .none .none 478,frO 228 225 mdE 471]
noncomputable def clsL (P:Params) (k:Nat) (a227:Obj) (r:List Obj):List Obj:=base P (boot_o_2 P) (o3 P) (x12 4) (x197 [])++(mid P k a227++r)
noncomputable def LSA (P:Params):List Obj:=clsL P 0 (zf []) []
noncomputable def LB0 (P:Params):List Obj:=clsL P 1 (zf []) [x230 P]
noncomputable def LB1 (P:Params):List Obj:=clsL P 2 (zf []) [x230 P]
noncomputable def LB2 (P:Params):List Obj:=clsL P 3 (zf []) [x230 P,x231 P]
noncomputable def o227:Obj:=zf (dfl 6 3 232 tkE)
noncomputable def dfsE (P:Params) (r:List Obj):List Obj:=x230 P::x231 P::(dfs 6 mdE 471 3 232 tkE++r)
noncomputable def kZ (P:Params) (n k:Nat) (x:Str) (tx:Tok) (i:Int) (ti:Tok) (r:Int) (tr:Tok):List Obj:=[
  ⟨.type "dict",none,.dict ⟨[ent P (u [115]) (k+5) (.str x tx),ent P (u [115,117,98,115,116,114,105,110,103,95,105]) (k+7) (.int i ti),ent P (u [114,101,115,117,108,116]) (k+9) (.int r tr)]⟩ 3,⟨[]⟩⟩,
  ⟨.ref 218,some n,.plain,⟨[]⟩⟩,
  ⟨.type "frame",none,.dict ⟨[ent P (u [115,101,108,102]) k (.ref (n+1)),ent P (u [115]) (k+1) (.str x tx),ent P (u [115,117,98,115,116,114,105,110,103,95,105]) (k+2) (.int i ti),ent P (u [114,101,115,117,108,116]) (k+3) (.int r tr)]⟩ 4,⟨[]⟩⟩]
noncomputable def ng (i:Int):Nat:=match i with | .ofNat _=>0 | .negSucc _=>1
noncomputable def dB (P:Params):Nat→Nat→List (Str×Int×Int)→List Obj
  | _,_,[]=>[]
  | n,t,(x,i,r)::l=>kZ P n (t+3+ng i+ng r) x t i (t+1+ng i) r (t+2+ng i+ng r)++dB P (n+3) (t+13+ng i+ng r) l
noncomputable def eG:Nat→List (Str×Int×Int)→List Value
  | _,[]=>[]
  | n,_::l=>.ref (n+1)::eG (n+3) l
noncomputable def aL (P:Params) (n t:Nat) (l:List (Str×Int×Int)):List Obj:=dB P n t l++[⟨.type "list",none,.seq ⟨eG n l⟩ 0,⟨[]⟩⟩]
noncomputable def T0:List (Str×Int×Int):=[(u [],-1,14),(u [45],0,13),(u [99,120],0,1),(u [103,120],0,2),(u [104,120],0,3),(u [106,120],0,4),(u [113],0,12),(u [115,120],0,5),(u [117,120],0,6),(u [119],0,12),(u [120],0,12),(u [121],0,12),(u [225],0,7),(u [233],0,8),(u [237],0,9),(u [243],0,10),(u [250],0,11)]
noncomputable def T1:List (Str×Int×Int):=[(u [97,115],-1,-1),(u [105],-1,-1),(u [105,115],1,-1),(u [111,115],-1,-1),(u [117],-1,-1),(u [117,115],4,-1)]
noncomputable def T2:List (Str×Int×Int):=[(u [99,105],-1,-1),(u [103,105],-1,-1),(u [104,105],-1,-1),(u [108,105],-1,-1),(u [105,108,105],3,-1),(u [349,108,105],3,-1),(u [109,105],-1,-1),(u [110,105],-1,-1),(u [111,110,105],7,-1),(u [114,105],-1,-1),(u [115,105],-1,-1),(u [118,105],-1,-1),(u [105,118,105],11,-1),(u [285,105],-1,-1),(u [349,105],-1,-1),(u [105,349,105],14,-1),(u [109,97,108,349,105],14,-1)]
noncomputable def T3:List (Str×Int×Int):=[(u [97,109,98],-1,-1),(u [98,97,108,100],-1,-1),(u [109,97,108,98,97,108,100],1,-1),(u [109,111,114,103],-1,-1),(u [112,111,115,116,109,111,114,103],3,-1),(u [97,100,105],-1,-1),(u [104,111,100,105],-1,-1),(u [97,110,107],-1,-1),(u [265,105,114,107],-1,-1),(u [116,117,116,265,105,114,107],8,-1),(u [112,114,101,115,107],-1,-1),(u [97,108,109,101,110],-1,-1),(u [97,112,101,110],-1,-1),(u [104,105,101,114],-1,-1),(u [97,110,116,97,365,104,105,101,114],13,-1),(u [109,97,108,103,114],-1,-1),(u [97,110,107,111,114],-1,-1),(u [107,111,110,116,114],-1,-1),(u [97,110,115,116,97,116],-1,-1),(u [107,118,97,122],-1,-1)]
noncomputable def T4:List (Str×Int×Int):=[(u [97,108,105,117],-1,-1),(u [117,110,117],-1,-1)]
noncomputable def T5:List (Str×Int×Int):=[(u [97,104,97],-1,-1),(u [104,97,104,97],0,-1),(u [104,97,108,101,108,117,106,97],-1,-1),(u [104,111,108,97],-1,-1),(u [104,111,115,97,110,97],-1,-1),(u [109,97,108,116,114,97],-1,-1),(u [104,117,114,97],-1,-1),(u [293,97,293,97],-1,-1),(u [101,107,100,101],-1,-1),(u [101,108,100,101],-1,-1),(u [100,105,115,100,101],-1,-1),(u [101,104,101],-1,-1),(u [109,97,108,116,114,101],-1,-1),(u [100,105,114,108,105,100,105,100,105],-1,-1),(u [109,97,108,112,108,105],-1,-1),(u [109,97,108,265,105],-1,-1),(u [109,97,108,107,97,106],-1,-1),(u [97,109,101,110],-1,-1),(u [116,97,109,101,110],17,-1),(u [111,104,111],-1,-1),(u [109,97,108,116,114,111],-1,-1),(u [109,105,110,117,115],-1,-1),(u [117,104,117],-1,-1),(u [109,117,117],-1,-1)]
noncomputable def T6:List (Str×Int×Int):=[(u [116,114,105],-1,-1),(u [100,117],-1,-1),(u [117,110,117],-1,-1)]
noncomputable def T7:List (Str×Int×Int):=[(u [100,101,107],-1,-1),(u [99,101,110,116],-1,-1)]
noncomputable def T8:List (Str×Int×Int):=[(u [107],-1,-1),(u [107,101,108,107],0,-1),(u [110,101,110],-1,-1),(u [116],-1,-1),(u [109,117,108,116],3,-1),(u [115,97,109,116],3,-1),(u [265],-1,-1)]
noncomputable def T9:List (Str×Int×Int):=[(u [97],-1,-1),(u [101],-1,-1),(u [105],-1,-1),(u [106],-1,1),(u [97,106],3,-1),(u [111,106],3,-1),(u [110],-1,1),(u [97,110],6,-1),(u [101,110],6,-1),(u [106,110],6,1),(u [97,106,110],9,-1),(u [111,106,110],9,-1),(u [111,110],6,-1),(u [111],-1,-1),(u [97,115],-1,-1),(u [105,115],-1,-1),(u [111,115],-1,-1),(u [117,115],-1,-1),(u [117],-1,-1)]
noncomputable def tls:List (Nat×Nat×List (Str×Int×Int)):=[(309,623,T0),(361,846,T1),(380,935,T2),(432,1185,T3),(493,1482,T4),(500,1513,T5),(573,1872,T6),(583,1918,T7),(590,1949,T8),(612,2052,T9)]
noncomputable def tabs (P:Params):List (Nat×Nat×List (Str×Int×Int))→List Obj→List Obj
  | [],r=>r
  | (n,t,l)::q,r=>aL P n t l++tabs P q r
noncomputable def LT (j:Nat) (P:Params):List Obj:=clsL P (14+j) o227 (dfsE P (tabs P (tls.take j) []))
noncomputable def clsZ (P:Params) (a2 a3 a12:Obj) (r:List Obj):List Obj:=base P a2 a3 a12 (x197 [.ref 672])++(mid P 25 o227++dfsE P (tabs P tls (
  [zt (nms 2327 [u [98,114,97],u [99,117,114,115,111,114],u [107,101,116],u [108,105,109,105,116,95,98,97,99,107,119,97,114,100]]),zd (cl2 P mdE 471 480 204++(e225 P++[ent P kDo 2332 .none])) 2,
   tyO nmE [.ref 197] [.ref 672,.ref 197,.type "object"] 671 [] (some (.ref 223)) 473 481 "object.__new__",sup 672,bis 672]++r)))
noncomputable def LS7 (P:Params):List Obj:=clsZ P (boot_o_2 P) (x3 P mdE 471 12) (x12 4) []
noncomputable def labs (P:Params) (r:List Obj):List Obj:=lab P (fnm (stM 7)) 675 2335 616++(lab P (fnm (stM 8)) 688 2355 618++r)
noncomputable def LS10 (P:Params):List Obj:=clsZ P (x2 P) (x3 P mdL 2375 14) (x12 6) (labs P [])
noncomputable def lO (i n t:Nat) (r:List Obj):List Obj:=dfO (stM i) (fnm (stM i)) mdL 2375 n t++r
noncomputable def lN (i n t:Nat) (r:List Obj):List Obj:=dfN (stM i) (fnm (stM i)) mdL 2375 n t++r
noncomputable def lL (i t:Nat):Obj:=zo "list" (.seq ⟨nms t (elts (stM i))⟩ 0)
noncomputable def LFIN (P:Params):List Obj:=clsZ P (x2 P) (x3 P mdL 2375 34) (x12 16) (labs P (lO 10 701 2377 (lO 11 708 2383 (lO 12 715 2389 (lO 13 722 2395 (lO 14 729 2401
  (lL 15 2407::lL 16 2425::lL 17 2432::lL 18 2453::lL 19 2462::lL 20 2487::lL 21 2512::lL 22 2519::lL 23 2522::lO 24 745 2542 (lL 25 2548::lO 26 753 2617 (lN 27 760 2628 (lN 28 765 2634 (lO 29 770 2640 [])))))))))))
noncomputable def pick:List Obj→Nat→Nat→Frag
  | [],_,_=>[]
  | o::os,i,m=>match m % 2 with
    | 0=>pick os (i+1) (m / 2)
    | _=>(i,o)::pick os (i+1) (m / 2)
noncomputable def kam:Nat:=681906328745245350299853535580256575188867496779013156600295284124001553594989722656802162607336374056366647795228802493867738725301719139706564369324400962918536490971435895988996019567774986650015201667733483994753302379209854189580
noncomputable def KK (P:Params):Frag:=pick (LFIN P) 0 kam
noncomputable def evL:List Obj→List Obj
  | []=>[]
  | [a]=>[a]
  | a::_::r=>a::evL r
noncomputable def odL:List Obj→List Obj
  | []=>[]
  | [_]=>[]
  | _::b::r=>b::odL r
noncomputable def btOf:Nat→List Obj→BT
  | 0,_=>.nil
  | _+1,[]=>.nil
  | f+1,v::r=>.node v (btOf f (evL r)) (btOf f (odL r))
theorem evL_get:∀ (l:List Obj) (k:Nat),(evL l)[k]?=l[2 * k]?
  | [],k=>by simp [evL]
  | [a],0=>by simp [evL]
  | [a],k+1=>by simp [evL]
  | a::b::r,0=>by simp [evL]
  | a::b::r,k+1=>by
    have:=evL_get r k
    rw [show 2 * (k+1)=2 * k+1+1 by lia]
    simpa [evL] using this
theorem odL_get:∀ (l:List Obj) (k:Nat),(odL l)[k]?=l[2 * k+1]?
  | [],k=>by simp [odL]
  | [a],k=>by simp [odL]
  | a::b::r,0=>by simp [odL]
  | a::b::r,k+1=>by
    have:=odL_get r k
    rw [show 2 * (k+1)+1=2 * k+1+1+1 by lia]
    simpa [odL] using this
theorem evL_len:∀ (l:List Obj),2 * (evL l).length≤l.length+1
  | []=>by simp [evL]
  | [a]=>by simp [evL]
  | a::b::r=>by have:=evL_len r; simp only [evL,List.length_cons]; lia
theorem odL_len:∀ (l:List Obj),2 * (odL l).length≤l.length
  | []=>by simp [odL]
  | [a]=>by simp [odL]
  | a::b::r=>by have:=odL_len r; simp only [odL,List.length_cons]; lia
theorem btOf_get:∀ (f:Nat) (l:List Obj) (i:Nat),l.length < 2 ^ f→(btOf f l).get i=l[i]?
  | 0,l,i,h=>by
    have:l=[]:=List.length_eq_zero_iff.mp (by lia)
    subst this; simp [btOf,BT.get]
  | f+1,[],i,_=>by simp [btOf,BT.get]
  | f+1,v::r,i,h=>by
    have h2:r.length+1 < 2 * 2 ^ f:=by rw [List.length_cons,Nat.pow_succ] at h; lia
    have e1:=evL_len r
    have e2:=odL_len r
    rw [btOf,BT.get_node]
    by_cases h0:i=0
    · subst h0; simp
    · by_cases hp:i % 2=1
      · rw [if_neg h0,if_pos hp,btOf_get f _ _ (by lia),evL_get]
        obtain ⟨k,rfl⟩:∃ k,i=2 * k+1:=⟨i / 2,by lia⟩
        rw [show 2 * ((2 * k+1) / 2)=2 * k by lia]; simp
      · rw [if_neg h0,if_neg hp,btOf_get f _ _ (by lia),odL_get]
        obtain ⟨k,rfl⟩:∃ k,i=2 * k+2:=⟨i / 2 - 1,by lia⟩
        rw [show 2 * ((2 * k+2) / 2 - 1)+1=2 * k+1 by lia]; simp
noncomputable def hp (l:List Obj):Heap:=⟨l.toArray,{}⟩
theorem abs_btOf (l:List Obj) (h:l.length < 2 ^ 12):absHeap (btOf 12 l) l.length {}=hp l:=by
  refine heap_eq ?_ rfl
  unfold absHeap hp
  apply Array.ext_getElem?
  intro i
  have:=absHeap_at (btOf 12 l) l.length {} i
  unfold absHeap at this
  dsimp only at this ⊢
  rw [this,btOf_get 12 l i h,List.getElem?_toArray]
  by_cases q:i < l.length
  · rw [if_pos q,List.getElem?_eq_getElem q]; rfl
  · rw [if_neg q,List.getElem?_eq_none (by lia)]
noncomputable def stT (l:List Obj) (n t:Nat) (os:OsState):SharedT:=⟨btOf 12 l,n,{},⟨[]⟩,{},t,os⟩
noncomputable def stS (l:List Obj) (t:Nat) (os:OsState):Shared:=⟨hp l,⟨[]⟩,{},t,os⟩
theorem fD {l:List Obj} {n t:Nat} {os:OsState} (e:n=l.length) (h:Nat.blt n 4096=true):(stT l n t os).abs=stS l t os:=by
  subst e
  unfold SharedT.abs stT stS
  dsimp only
  rw [abs_btOf l (Nat.le_of_ble_eq_true h)]
noncomputable def cbody:List Stmt:=clsBody 6
noncomputable def cscope:Scope:=match stM 6 with | .ClassDef _ _ _ _ _ _ sc _ _ _ _=>sc | _=>default
noncomputable def cenv:Env:={ scope:=cscope,locals:=225,globals:=mainGlobals,cells:=[],qual:=u [69,115,112,101,114,97,110,116,111,83,116,101,109,109,101,114,46],code:=.ref 228,frame:=some 229,builtins:=builtinsNs }
noncomputable def bB:Code:=.body cbody cenv
noncomputable abbrev q0:Pos:=⟨0,0,0,0⟩
noncomputable def tbody:List Stmt:=pw.main.body
noncomputable def env1:Env:={ scope:=pw.main.scope,locals:=mainNs,globals:=mainNs,cells:=[],code:=.ref 13,frame:=some 14 }
noncomputable def iG:Code:=.body tbody env1
noncomputable abbrev p6:Pos:=⟨204,0,615,393⟩
noncomputable abbrev lv6:List Value:=[.ref 197,.ref 223,.ref 223,.ref 225,.ref 229]
noncomputable def cfr (kf:Result→Sem PySem.Fin):Frame:=.ret kf none false lv6 iG p6 []
noncomputable abbrev an6:Option Value:=some (.ref 6)
noncomputable def goT (tb:String→Option Builtin) (p:Program) (w:World) (n₀:Nat) (ann:Option Value):Nat→SharedT→Thread→Option (SharedT×Thread)
  | 0,s,t=>some (s,t)
  | n+1,s,t=>match through t with
    | true=>none
    | false=>match stepOk n₀ ann t with
      | false=>none
      | true=>match stepT (denote tb) p w s t with
        | some (s',t')=>goT tb p w n₀ ann n s' t'
        | none=>none
theorem goT_top {tb:String→Option Builtin} {p:Program} {w:World} {n₀:Nat} {ann:Option Value}:∀ {n N:Nat} {s s':SharedT} {t t':Thread} {r:Shared},goT tb p w n₀ ann n s t=some (s',t')→topRun tb p w n₀ ann N s'.abs t'=some r→topRun tb p w n₀ ann (n+N) s.abs t=some r
  | 0,N,s,s',t,t',r,h,k=>by
    obtain ⟨rfl,rfl⟩:s=s'∧t=t':=by simpa [goT] using h
    rw [Nat.zero_add]; exact k
  | n+1,N,s,s',t,t',r,h,k=>by
    rw [show n+1+N=n+N+1 by lia]
    unfold goT at h
    unfold topRun
    cases ht:through t with
    | true=>rw [ht] at h; cases h
    | false =>
      rw [ht] at h
      cases hk:stepOk n₀ ann t with
      | false=>rw [hk] at h; cases h
      | true =>
        rw [hk] at h
        cases hs:stepT (denote tb) p w s t with
        | none=>rw [hs] at h; cases h
        | some x =>
          obtain ⟨s₂,t₂⟩:=x
          rw [hs] at h
          rw [stepT_spec hs]
          exact goT_top h k
noncomputable def pre6 (w:World) (os:OsState) (K:Flow→Sem PySem.Fin) (H:Value→Sem PySem.Fin):Option (SharedT×Thread) :=
  goT treeTable pw w 11 an6 63 (stT (LS6 w.params) 223 473 os) ⟨(execs [stM 6] env1).wrap K H id id,iG,⟨203,0,203,8⟩,[topFrame q0]⟩
noncomputable def kk6 (w:World) (os:OsState) (K:Flow→Sem PySem.Fin) (H:Value→Sem PySem.Fin):Result→Sem PySem.Fin:=match pre6 w os K H with
  | some (_,⟨.call _ _ _ _ k,_,_,_⟩)=>k
  | _=>fun _=>.unsupported ""
theorem run_pre6 (w:World) (os:OsState) (K:Flow→Sem PySem.Fin) (H:Value→Sem PySem.Fin) :
    pre6 w os K H=some (stT (LSA w.params) 230 485 os,⟨.call bB none false lv6 (kk6 w os K H),iG,p6,[topFrame q0]⟩):=by
  kernel_rfl
theorem run_aou (w:World) (os:OsState) (kf:Result→Sem PySem.Fin) :
    segRunT treeTable pw w 11 an6 2 30 (stT (LB0 w.params) 231 496 os) (pieceOf (stC 6 1) cenv bB ⟨205,4,205,11⟩ [cfr kf,topFrame q0]) =
      some (.next,stT (LB1 w.params) 231 498 os,bB,⟨206,4,206,9⟩):=by
  kernel_rfl
theorem run_defs (w:World) (os:OsState) (kf:Result→Sem PySem.Fin) :
    segRunT treeTable pw w 11 an6 2 400 (stT (LB2 w.params) 232 519 os) (piecesOf ((cbody.drop 3).take 11) cenv bB ⟨207,4,207,11⟩ [cfr kf,topFrame q0]) =
      some (.next,stT (LT 0 w.params) 309 623 os,bB,⟨545,4,605,19⟩):=by
  kernel_rfl
theorem run_end6 (w:World) (os:OsState) (K:Flow→Sem PySem.Fin) (H:Value→Sem PySem.Fin) :
    goT treeTable pw w 11 an6 174 (stT (LT 10 w.params) 670 2327 os) ⟨kk6 w os K H (.ok .next),iG,p6,[topFrame q0]⟩=some (stT (LS7 w.params) 675 2335 os,⟨K .next,iG,p6,[topFrame q0]⟩):=by
  kernel_rfl
theorem run_first (w:World) (os:OsState) :
    segRunT treeTable pw w 11 an6 1 1300 (stT (LS0 w.params) 15 187 os) (piecesOf (tbody.take 6) env1 iG q0 [topFrame q0]) =
      some (.next,stT (LS6 w.params) 223 473 os,iG,⟨203,0,203,8⟩):=by
  kernel_rfl
theorem run_labs (w:World) (os:OsState) :
    segRunT treeTable pw w 11 an6 1 410 (stT (LS7 w.params) 675 2335 os) (piecesOf ((tbody.drop 7).take 3) env1 iG p6 [topFrame q0]) =
      some (.next,stT (LS10 w.params) 701 2377 os,iG,⟨620,0,620,8⟩):=by
  kernel_rfl
theorem run_laws (w:World) (os:OsState) :
    segRunT treeTable pw w 11 an6 1 900 (stT (LS10 w.params) 701 2377 os) (piecesOf (tbody.drop 10) env1 iG ⟨620,0,620,8⟩ [topFrame q0]) =
      some (.next,stT (LFIN w.params) 777 2650 os,iG,⟨720,0,726,61⟩):=by
  kernel_rfl
theorem run_fin (w:World) (os:OsState):topRun treeTable pw w 11 an6 2 (stS (LFIN w.params) 2650 os) ⟨.pure (.done .next),iG,⟨720,0,726,61⟩,[topFrame q0]⟩=some (stS (LFIN w.params) 2650 os):=by
  kernel_rfl
noncomputable def mC (olds:List (Nat×Obj)) (news:List Obj) (n j:Nat):Option (Nat×Obj):=match olds,j with
  | [],j=>(news[j]?).map fun o=>(n+j,o)
  | x::_,0=>some x
  | _::r,j+1=>mC r news n j
noncomputable def nU (olds:List (Nat×Obj)) (n j:Nat):Nat:=match olds,j with
  | [],j=>n+j
  | x::_,0=>x.1
  | _::r,j+1=>nU r n j
noncomputable def newAt (olds:List (Nat×Obj)) (j:Nat):Option Nat:=match olds,j with
  | [],j=>some j
  | _::_,0=>none
  | _::r,j+1=>newAt r j
theorem entAt_spec {h:Heap} {news:List Obj} {olds:List (Nat×Obj)} (ho:∀ x∈olds,h.get? x.1=some x.2):∀ {j:Nat} {a:Nat} {o:Obj},mC olds news h.objs.size j=some (a,o)→alive o=some o→a=nU olds h.objs.size j∧(bK h news).get? a=some o:=by
  induction olds with
  | nil =>
    intro j a o e al
    unfold mC at e
    cases q:news[j]? with
    | none=>rw [q] at e; cases e
    | some o' =>
      rw [q] at e
      obtain ⟨rfl,rfl⟩:h.objs.size+j=a∧o'=o:=by simpa using e
      exact ⟨by unfold nU; rfl,mV q al⟩
  | cons x r ih =>
    intro j a o e al
    cases j with
    | zero =>
      unfold mC at e
      cases e
      exact ⟨by unfold nU; rfl,dI (ho _ (.head _))⟩
    | succ j =>
      unfold mC at e
      obtain ⟨e1,e2⟩:=ih (fun y hy=>ho y (.tail _ hy)) e al
      exact ⟨by rw [e1]; conv=>rhs; unfold nU,e2⟩
theorem newAt_spec {n:Nat} {olds:List (Nat×Obj)} {news:List Obj}:∀ {j i:Nat},newAt olds j=some i→nU olds n j=n+i∧∀ a o,mC olds news n j=some (a,o)→news[i]?=some o:=by
  induction olds with
  | nil =>
    intro j i e
    unfold newAt at e
    obtain rfl:j=i:=Option.some.inj e
    refine ⟨by unfold nU; rfl,fun a o q=>?_⟩
    unfold mC at q
    cases z:news[j]? with
    | none=>rw [z] at q; cases q
    | some o'=>rw [z] at q; cases q; rfl
  | cons x r ih =>
    intro j i e
    cases j with
    | zero=>unfold newAt at e; cases e
    | succ j =>
      unfold newAt at e
      obtain ⟨e1,e2⟩:=ih e
      refine ⟨by conv=>lhs; unfold nU
                 exact e1,fun a o q=>?_⟩
      unfold mC at q
      exact e2 a o q
noncomputable def loadO (olds:List (Nat×Obj)) (s:SA) (a:Nat) (K:Obj→Thread):List Nat→Option (SA×Thread×List Nat×List Nat)
  | []=>none
  | j::orc=>match mC olds s.news s.n j with
    | none=>none
    | some (_,o)=>match alive o with
      | none=>none
      | some o'=>some (s,K o',orc,[a])
noncomputable def updO (olds:List (Nat×Obj)) (s:SA) (a:Nat) (f:Obj→Obj) (t:Thread):List Nat→Option (SA×Thread×List Nat×List Nat)
  | []=>none
  | j::orc=>match newAt olds j with
    | none=>none
    | some i=>match mC olds s.news s.n j with
      | none=>none
      | some (_,o)=>match alive o with
        | none=>none
        | some _=>some (⟨s.n,modAt s.news i f,s.gens,s.drawn,s.toks,s.os⟩,t,orc,[a])
noncomputable def othO (den:Code→Sem Fin) (p:Program) (w:World) (orc:List Nat) (s:SA) (t:Thread):Option (SA×Thread×List Nat×List Nat):=match step den p w ⟨{},s.gens,s.drawn,s.toks,s.os⟩ t with
  | .go s' t'=>some (⟨s.n,s.news,s'.gens,s'.drawn,s'.toks,s'.os⟩,t',orc,[])
  | .halt _ _=>none
noncomputable def stepO (olds:List (Nat×Obj)) (den:Code→Sem Fin) (p:Program) (w:World) (orc:List Nat) (s:SA) (t:Thread):Option (SA×Thread×List Nat×List Nat):=match t.cur with
  | .load a _ k=>loadO olds s a (fun o=>⟨k o,t.code,t.pos,t.stack⟩) orc
  | .update a _ f k=>updO olds s a f ⟨k (),t.code,t.pos,t.stack⟩ orc
  | .alloc o k=>some (⟨s.n,s.news++[o],s.gens,s.drawn,s.toks,s.os⟩,⟨k (s.n+s.news.length),t.code,t.pos,t.stack⟩,orc,[])
  | .loadIfAlive _ _=>none
  | _=>othO den p w orc s t
section
variable {olds:List (Nat×Obj)} {den:Code→Sem Fin} {p:Program} {w:World} {h:Heap} {s s':SA} {t t':Thread} {orc orc' as r:List Nat}
theorem step_load {sh:Shared} {a:Nat} {pt:Option Value} {k:Obj→Sem Fin} {c:Code} {q:Pos} {st:List Frame} {o:Obj} (e:sh.heap.get? a=some o):step den p w sh ⟨.load a pt k,c,q,st⟩=.go sh ⟨k o,c,q,st⟩:=by
  simp only [step,e]
theorem step_update {sh:Shared} {a:Nat} {pt:Option Value} {f:Obj→Obj} {k:Unit→Sem Fin} {c:Code} {q:Pos} {st:List Frame} {o:Obj} (e:sh.heap.get? a=some o):step den p w sh ⟨.update a pt f k,c,q,st⟩=.go { sh with heap:=sh.heap.update a f } ⟨k (),c,q,st⟩:=by
  simp only [step,e,Option.isSome_some,if_true]
noncomputable def OkO (olds:List (Nat×Obj)) (den:Code→Sem Fin) (p:Program) (w:World) (h:Heap) (s:SA) (t:Thread) (orc:List Nat):SA×Thread×List Nat×List Nat→Prop
  | (s',t',orc',as)=>∀ r,as++r=orc.map (nU olds s.n)→step den p w (s.at h) t=.go (s'.at h) t'∧s'.n=s.n∧r=orc'.map (nU olds s.n)
theorem loadO_ok (ho:∀ x∈olds,h.get? x.1=some x.2) (hn:s.n=h.objs.size) {a:Nat} {pt:Option Value} {k:Obj→Sem Fin} {c:Code} {q:Pos} {st:List Frame} {z:SA×Thread×List Nat×List Nat}
    (e:loadO olds s a (fun o=>⟨k o,c,q,st⟩) orc=some z):OkO olds den p w h s ⟨.load a pt k,c,q,st⟩ orc z:=by
  cases orc with
  | nil=>cases e
  | cons j orc =>
    unfold loadO at e
    dsimp only at e
    cases g:mC olds s.news s.n j with
    | none=>rw [g] at e; cases e
    | some x =>
      rw [g] at e
      dsimp only at e
      cases al:alive x.2 with
      | none=>rw [al] at e; cases e
      | some o' =>
        rw [al] at e
        cases e
        intro r hr
        obtain ⟨h1,h2⟩:=List.cons.inj hr
        obtain ⟨rfl,al'⟩:=nY al
        obtain ⟨e1,e2⟩:=entAt_spec ho (hn▸g) al'
        rw [e1,← hn,← h1] at e2
        exact ⟨step_load e2,rfl,h2⟩
theorem updO_ok (ho:∀ x∈olds,h.get? x.1=some x.2) (hn:s.n=h.objs.size) {a:Nat} {pt:Option Value} {f:Obj→Obj} {k:Unit→Sem Fin} {c:Code} {q:Pos} {st:List Frame} {z:SA×Thread×List Nat×List Nat}
    (e:updO olds s a f ⟨k (),c,q,st⟩ orc=some z):OkO olds den p w h s ⟨.update a pt f k,c,q,st⟩ orc z:=by
  cases orc with
  | nil=>cases e
  | cons j orc =>
    unfold updO at e
    dsimp only at e
    cases gi:newAt olds j with
    | none=>rw [gi] at e; cases e
    | some i =>
      rw [gi] at e
      dsimp only at e
      cases g:mC olds s.news s.n j with
      | none=>rw [g] at e; cases e
      | some x =>
        rw [g] at e
        dsimp only at e
        cases al:alive x.2 with
        | none=>rw [al] at e; cases e
        | some o' =>
          rw [al] at e
          cases e
          intro r hr
          obtain ⟨h1,h2⟩:=List.cons.inj hr
          obtain ⟨rfl,al'⟩:=nY al
          obtain ⟨e1,e2⟩:=entAt_spec ho (hn▸g) al'
          obtain ⟨n1,_⟩:=newAt_spec (n:=s.n) (news:=s.news) gi
          rw [n1,hn] at h1
          rw [e1,← hn,n1,hn,← h1] at e2
          refine ⟨(step_update e2).trans ?_,rfl,h2⟩
          show Step.go ⟨(bK h s.news).update a f,_,_,_,_⟩ _=_
          rw [h1,pushAll_update]
          rfl
theorem stepO_ok (ho:∀ x∈olds,h.get? x.1=some x.2) (hn:s.n=h.objs.size) {z:SA×Thread×List Nat×List Nat} (e:stepO olds den p w orc s t=some z):OkO olds den p w h s t orc z:=by
  obtain ⟨cur,c,q,st⟩:=t
  have oth:othO den p w orc s ⟨cur,c,q,st⟩=some z→(∀ a q k,cur≠.load a q k)→(∀ a q f k,cur≠.update a q f k)→(∀ o k,cur≠.alloc o k)→(∀ a k,cur≠.loadIfAlive a k)→OkO olds den p w h s ⟨cur,c,q,st⟩ orc z:=fun e h1 h2 h3 h4=>by
    unfold othO at e
    cases g:step den p w ⟨{},s.gens,s.drawn,s.toks,s.os⟩ ⟨cur,c,q,st⟩ with
    | halt _ _=>rw [g] at e; cases e
    | go s' t' =>
      rw [g] at e
      cases e
      exact fun r hr=>⟨step_heap h1 h2 h3 h4 g,rfl,hr⟩
  cases cur with
  | load a pt k=>exact loadO_ok ho hn e
  | update a pt f k=>exact updO_ok ho hn e
  | alloc o k =>
    cases e
    intro r hr
    refine ⟨?_,rfl,hr⟩
    show Step.go ⟨(bK h s.news).push o,_,_,_,_⟩ ⟨k (bK h s.news).objs.size,_,_,_⟩=Step.go ⟨bK h (s.news++[o]),_,_,_,_⟩ _
    rw [gI,iJ,hn]
    rfl
  | loadIfAlive a k=>cases e
  | _=>exact oth e (fun _ _ _=>nofun) (fun _ _ _ _=>nofun) (fun _ _=>nofun) (fun _ _=>nofun)
end
noncomputable def dZ (olds:List (Nat×Obj)) (tb:String→Option Builtin) (p:Program) (w:World) (n₀:Nat) (ann:Option Value) (b:Nat):Nat→List Nat→SA→Thread→Option ((Flow×SA×Code×Pos)×List Nat)
  | 0,_,_,_=>none
  | n+1,orc,s,t=>match endAt b t with
    | some f=>some ((f,s,t.code,t.pos),[])
    | none=>match stepOk n₀ ann t with
      | false=>none
      | true=>match stepO olds (denote tb) p w orc s t with
        | none=>none
        | some (s',t',orc',as)=>match dZ olds tb p w n₀ ann b n orc' s' t' with
          | none=>none
          | some (r,as')=>some (r,as++as')
theorem segRunO_of {olds:List (Nat×Obj)} {tb:String→Option Builtin} {p:Program} {w:World} {n₀:Nat} {ann:Option Value} {b:Nat} {h:Heap} (ho:∀ x∈olds,h.get? x.1=some x.2) {s':SA} {f:Flow} {c:Code} {q:Pos} {n:Nat} :
    ∀ {orc as:List Nat} {s:SA} {t:Thread},s.n=h.objs.size→dZ olds tb p w n₀ ann b n orc s t=some ((f,s',c,q),as)→as=orc.map (nU olds s.n)→segRun tb p w n₀ ann b n (s.at h) t=some (f,s'.at h,c,q):=by
  induction n with
  | zero=>intro _ _ _ _ _ e; cases e
  | succ n ih =>
    intro orc as s t hn e has
    unfold dZ at e
    unfold segRun
    cases he:endAt b t with
    | some x=>rw [he] at e; cases e; rfl
    | none =>
      rw [he] at e
      cases hk:stepOk n₀ ann t with
      | false=>rw [hk] at e; cases e
      | true =>
        rw [hk] at e
        dsimp only at e ⊢
        cases hs:stepO olds (denote tb) p w orc s t with
        | none=>rw [hs] at e; cases e
        | some z =>
          obtain ⟨s₁,t₁,orc₁,as₁⟩:=z
          rw [hs] at e
          dsimp only at e
          cases hz:dZ olds tb p w n₀ ann b n orc₁ s₁ t₁ with
          | none=>rw [hz] at e; cases e
          | some y =>
            obtain ⟨y1,y2⟩:=y
            rw [hz] at e
            cases e
            obtain ⟨z1,z2,z3⟩:=stepO_ok ho hn hs _ has
            rw [z1]
            exact ih (z2.trans hn) hz (z2▸z3)
theorem Steps.of_segO {pr:Program} {w:World} {n₀:Nat} {ann:Option Value} {α:Type} {gd:Bool→Bool} {lv:List Value→List Value} {B:List Frame} {c:Code} {p p':Pos} {a:α} {n:Nat} {x:Sem α} {res:α→Flow} {olds:List (Nat×Obj)} {orc as:List Nat} {h:Heap} {t t':SA}
    (ho:∀ x∈olds,h.get? x.1=some x.2) (hn:t.n=h.objs.size) (hB:splitAtGen B=none) (inj:∀ a',res a'=res a→a'=a)
    (e:dZ olds treeTable pr w n₀ ann B.length n orc t ⟨x.wrap (fun a=>.pure (.done (res a))) deadEnd gd lv,c,p,B⟩=some ((res a,t',c,p'),as)) (has:as=orc.map (nU olds t.n)) :
    Steps pr w n₀ ann n x gd lv B (t.at h) c p a (t'.at h) p':=Steps.of_seg hB inj (segRunO_of ho hn e has)
noncomputable def oldsA (P:Params):List (Nat×Obj):=[(218,o218),(217,o217 P),(215,o215),(214,o214),(2,boot_o_2 P)]
noncomputable def orcA:List Nat:=[0,0,0,0,0,0,0,0,0,0,0,0,0,0,0,0,0,0,0,0,0,0,0,1,0,0,6,0,6,0,0,1,2,2,3,7,7,7,7,7,7,7,7,4,7,7,6,0,0,1,6,0,6,0,6,0,0,1,6,0,5,5,5,7,7,6,0,0,1,6,0,6,0,6,0,0,1,6,0,5,5,5,7,7,6,0,0,1,6,0,6,0,6,0,0,1,6,0,5,5,5]
theorem run_among (w:World) (os:OsState) (kf:Result→Sem PySem.Fin) (gd:Bool→Bool) (lv:List Value→List Value) (p:Pos) (m k:Nat) (x:Str) (tx:Tok) (i:Int) (ti:Tok) (r:Int) (tr:Tok) :
    dZ (oldsA w.params) treeTable pw w 11 an6 2 160 orcA ⟨m+309,[],⟨[]⟩,{},k,os⟩ ⟨(call (.ref 218) [.str x tx,.int i ti,.int r tr] []).wrap (fun a=>.pure (.done (.ret a))) deadEnd gd lv,bB,p,[cfr kf,topFrame q0]⟩ =
      some ((.ret (.ref (m+309+1)),⟨m+309,kZ w.params (m+309) k x tx i ti r tr,⟨[]⟩,{},k+10,os⟩,bB,p),[218,218,218,218,218,218,218,218,218,218,218,218,218,218,218,218,218,218,218,218,218,218,218,217,218,218,m+309+1,218,m+309+1,218,218,217,215,215,214,m+309+2,m+309+2,m+309+2,m+309+2,m+309+2,m+309+2,m+309+2,m+309+2,2,m+309+2,m+309+2,m+309+1,218,218,217,m+309+1,218,m+309+1,218,m+309+1,218,218,217,m+309+1,218,m+309+0,m+309+0,m+309+0,m+309+2,m+309+2,m+309+1,218,218,217,m+309+1,218,m+309+1,218,m+309+1,218,218,217,m+309+1,218,m+309+0,m+309+0,m+309+0,m+309+2,m+309+2,m+309+1,218,218,217,m+309+1,218,m+309+1,218,m+309+1,218,218,217,m+309+1,218,m+309+0,m+309+0,m+309+0]):=by
  kernel_rfl
noncomputable def St (w:World) (kf:Result→Sem PySem.Fin) (n:Nat) {α:Type} (x:Sem α) (s:Shared) (p:Pos) (a:α) (s':Shared) (p':Pos):Prop :=
  ∀ gd lv,Steps pw w 11 an6 n x gd lv [cfr kf,topFrame q0] s bB p a s' p'
section
variable {w:World} {kf:Result→Sem PySem.Fin} {α β:Type} {s s' s₁:Shared} {p p' p₁:Pos} {a:α} {b:β} {n k:Nat}
theorem St.pure:St w kf 0 (Pure.pure a:Sem α) s p a s p:=fun _ _=>Steps.pure
theorem St.bind {m:Sem α} {f:α→Sem β} (h:St w kf n m s p a s₁ p₁) (h':St w kf k (f a) s₁ p₁ b s' p'):St w kf (n+k) (m >>= f) s p b s' p':=fun gd lv=>Steps.bind (h gd lv) (h' gd lv)
theorem St.keep {m:Sem α} {vs:List Value} (h:St w kf n m s p a s' p'):St w kf n (m.keep vs) s p a s' p':=fun gd lv=>Steps.keep (h gd _)
theorem St.holding {m:Sem α} {vs:List Value} (h:St w kf n m s p a s' p'):St w kf n (holding vs m) s p a s' p':=by
  unfold PySem.holding
  split
  · exact h
  · exact St.keep h
theorem St.standAt {q:Pos}:St w kf 1 (PySem.standAt q) s p () s q:=fun _ _=>Steps.at_ Steps.pure
theorem St.point:St w kf 1 PySem.point s p () s p:=fun _ _=>Steps.point_ Steps.pure
theorem St.mkInt {i:Int}:St w kf 1 (PySem.mkInt i) s p (.int i s.toks) { s with toks:=s.toks+1 } p:=fun _ _=>Steps.fresh_ Steps.pure
theorem St.mkText {x:Str}:St w kf 1 (PySem.mkText x) s p (.str x s.toks) { s with toks:=s.toks+1 } p:=fun _ _=>Steps.fresh_ Steps.pure
theorem St.ofO {x:Sem α} {res:α→Flow} {olds:List (Nat×Obj)} {orc as:List Nat} {h:Heap} {t t':SA} (ho:∀ x∈olds,h.get? x.1=some x.2) (hn:t.n=h.objs.size) (inj:∀ a',res a'=res a→a'=a)
    (e:∀ gd lv,dZ olds treeTable pw w 11 an6 2 n orc t ⟨x.wrap (fun a=>.pure (.done (res a))) deadEnd gd lv,bB,p,[cfr kf,topFrame q0]⟩=some ((res a,t',bB,p'),as)) (has:as=orc.map (nU olds t.n)) :
    St w kf n x (t.at h) p a (t'.at h) p':=fun gd lv=>Steps.of_segO (res:=res) ho hn rfl inj (e gd lv) has
theorem ret_inj {v:Value}:∀ a',Flow.ret a'=Flow.ret v→a'=v:=fun a' e=>by cases e; rfl
theorem St.spliced_nil:St w kf 0 (spliced []) s p [] s p:=St.pure
theorem St.spliced_cons {x:Sem Value} {rest:List (Bool×Sem Value)} {v:Value} {vs:List Value} (h:St w kf n x s p v s₁ p₁) (h':St w kf k (spliced rest) s₁ p₁ vs s' p') :
    St w kf (n+k) (spliced ((false,x)::rest)) s p (v::vs) s' p':=by
  unfold spliced
  refine St.bind h ?_
  have:St w kf (0+k) ((Pure.pure [v]:Sem (List Value)) >>= fun here=>PySem.holding here (spliced rest) >>= fun r=>Pure.pure (here++r)) s₁ p₁ (v::vs) s' p' :=
    St.bind St.pure (by have:=St.bind (f:=fun r=>Pure.pure ([v]++r)) (St.holding (vs:=[v]) h') St.pure; exact this)
  rw [Nat.zero_add] at this
  exact this
theorem St.evalArgs {f:Value} {x y:Sem Value} {rest:List (Bool×Sem Value)} {vs:List Value} (h:St w kf n (spliced ((false,x)::(false,y)::rest)) s p vs s' p') :
    St w kf n (PySem.evalArgs f true ((false,x)::(false,y)::rest) []) s p ⟨vs,[]⟩ s' p':=by
  have e:St w kf (n+(0+(0+0))) (PySem.evalArgs f true ((false,x)::(false,y)::rest) []) s p ⟨vs,[]⟩ s' p':=by
    unfold PySem.evalArgs
    refine St.bind (m:=spliced ((false,x)::(false,y)::rest)) h ?_
    refine St.bind (a:=(vs,none)) St.pure ?_
    refine St.holding ?_
    exact St.bind (m:=evalAll []) (n:=0) (k:=0) (a:=[]) St.pure (St.bind (n:=0) (k:=0) (a:=vs) St.pure St.pure)
  exact e
end
noncomputable def mk (h:Heap) (t:Nat) (os:OsState):Shared:=⟨h,⟨[]⟩,{},t,os⟩
structure GoodH (P:Params) (h:Heap):Prop where
  old:∀ x∈oldsA P,h.get? x.1=some x.2
  big:∃ m,h.objs.size=m+309
theorem GoodH.push {P:Params} {h:Heap} (G:GoodH P h) (l:List Obj):GoodH P (bK h l) :=
  ⟨fun x hx=>dI (G.old x hx),by obtain ⟨m,e⟩:=G.big; exact ⟨m+l.length,by rw [iJ,e]; lia⟩⟩
noncomputable def keepFlow:Keeper→Flow
  | .frame=>.ret .none
  | .boundFrame=>.brk
  | .machine=>.next
  | .caller=>.cont
theorem run_keeper (w:World) (os:OsState) (kf:Result→Sem PySem.Fin) (gd:Bool→Bool) (lv:List Value→List Value) (p:Pos) (n k:Nat) :
    dZ (oldsA w.params) treeTable pw w 11 an6 2 5 [0,0] ⟨n,[],⟨[]⟩,{},k,os⟩ ⟨(keeperOf (.ref 218)).wrap (fun a=>.pure (.done (keepFlow a))) deadEnd gd lv,bB,p,[cfr kf,topFrame q0]⟩ =
      some ((.next,⟨n,[],⟨[]⟩,{},k,os⟩,bB,p),[218,218]):=by
  kernel_rfl
section
variable {w:World} {kf:Result→Sem PySem.Fin} {h:Heap} {t n:Nat} {os:OsState} {p p' p₁:Pos}
theorem St.keeper (G:GoodH w.params h):St w kf 5 (keeperOf (.ref 218)) (mk h t os) p .machine (mk h t os) p :=
  St.ofO (t:=⟨h.objs.size,[],⟨[]⟩,{},t,os⟩) (t':=⟨h.objs.size,[],⟨[]⟩,{},t,os⟩) (res:=keepFlow) G.old rfl (by intro a' e; cases a' <;> first | rfl | cases e) (fun gd lv=>run_keeper w os kf gd lv p _ _) rfl
theorem St.among (G:GoodH w.params h) {x:Str} {tx:Tok} {i:Int} {ti:Tok} {r:Int} {tr:Tok} :
    St w kf 160 (call (.ref 218) [.str x tx,.int i ti,.int r tr] []) (mk h t os) p (.ref (h.objs.size+1)) (mk (bK h (kZ w.params h.objs.size t x tx i ti r tr)) (t+10) os) p:=by
  obtain ⟨m,e⟩:=G.big
  have:=St.ofO (w:=w) (kf:=kf) (p:=p) (p':=p) (t:=⟨m+309,[],⟨[]⟩,{},t,os⟩) (res:=Flow.ret) G.old e.symm ret_inj (fun gd lv=>run_among w os kf gd lv p m t x tx i ti r tr) rfl
  rw [e]
  exact this
theorem St.amCall (G:GoodH w.params h) {x:Str} {tx:Tok} {i:Int} {ti:Tok} {r:Int} {tr:Tok} {t₀:Nat} {a1 a2 a3:Sem Value} {pc:Pos}
    (h1:St w kf n (spliced [(false,a1),(false,a2),(false,a3)]) (mk h t₀ os) p [.str x tx,.int i ti,.int r tr] (mk h t os) p₁) :
    St w kf (n+167) (callWith pc (.ref 218) [] [(false,a1),(false,a2),(false,a3)] []) (mk h t₀ os) p (.ref (h.objs.size+1)) (mk (bK h (kZ w.params h.objs.size t x tx i ti r tr)) (t+10) os) pc:=by
  have e:St w kf (n+(1+(5+(160+(1+0))))) (callWith pc (.ref 218) [] [(false,a1),(false,a2),(false,a3)] []) (mk h t₀ os) p (.ref (h.objs.size+1)) (mk (bK h (kZ w.params h.objs.size t x tx i ti r tr)) (t+10) os) pc:=by
    unfold callWith
    refine St.bind (St.holding (St.evalArgs h1)) ?_
    refine St.bind St.standAt ?_
    refine St.bind (St.keeper G) ?_
    exact St.bind (St.among G) (St.bind (St.holding St.point) St.pure)
  exact e
end
noncomputable abbrev amName:Str:=⟨⟨[65,109,111,110,103]⟩⟩
theorem run_neg (w:World) (os:OsState) (kf:Result→Sem PySem.Fin) (gd:Bool→Bool) (lv:List Value→List Value) (p p1 p2:Pos) (m k ks:Nat) (i:Int) :
    dZ [] treeTable pw w 11 an6 2 8 [] ⟨m,[],⟨[]⟩,{},k,os⟩ ⟨(eval (.UnaryOp .USub (.Constant (.int i) ks p1) p2) cenv).wrap (fun a=>.pure (.done (.ret a))) deadEnd gd lv,bB,p,[cfr kf,topFrame q0]⟩ =
      some ((.ret (.int (-i) (k+1)),⟨m,[],⟨[]⟩,{},k+2,os⟩,bB,p2),[]):=by
  kernel_rfl
noncomputable def bI (i:Int) (z:Nat×Pos×Pos):PySem.Expr:=match i with
  | .ofNat n=>.Constant (.int (.ofNat n)) z.1 z.2.1
  | .negSucc n=>.UnaryOp .USub (.Constant (.int (.ofNat (n+1))) z.1 z.2.1) z.2.2
structure DE where
  pn:Pos
  k:Nat
  q:Pos
  a:Nat×Pos×Pos
  b:Nat×Pos×Pos
  pc:Pos
noncomputable def zI:PySem.Expr→Nat×Pos×Pos
  | .UnaryOp _ (.Constant _ k q) q'=>(k,q,q')
  | .Constant _ k q=>(k,q,q)
  | _=>(0,q0,q0)
noncomputable def dE:PySem.Expr→DE
  | .Call (.Name _ pn) [.Constant _ k q,a,b] _ pc=>⟨pn,k,q,zI a,zI b,pc⟩
  | _=>⟨q0,0,q0,(0,q0,q0),(0,q0,q0),q0⟩
noncomputable def bE (t:Str×Int×Int) (d:DE):PySem.Expr:=.Call (.Name amName d.pn) [.Constant (.str t.1) d.k d.q,bI t.2.1 d.a,bI t.2.2 d.b] [] d.pc
noncomputable def bL:List (Str×Int×Int)→List PySem.Expr→List PySem.Expr
  | [],_=>[]
  | t::ts,es=>bE t (dE (es.headD default))::bL ts es.tail
structure GoodD (P:Params) (d:Obj) (h:Heap):Prop where
  am:GoodH P h
  ns:h.get? 225=some d
  top:h.get? 3=some (o3 P)
theorem GoodD.push {P:Params} {d:Obj} {h:Heap} (G:GoodD P d h) (l:List Obj):GoodD P d (bK h l):=⟨G.am.push l,dI G.ns,dI G.top⟩
noncomputable def gF (d:Params→Obj):Prop:=∀ (w:World) (os:OsState) (kf:Result→Sem PySem.Fin) (gd:Bool→Bool) (lv:List Value→List Value) (p pn:Pos) (m k:Nat),
  dZ [(225,d w.params),(3,o3 w.params)] treeTable pw w 11 an6 2 8 [0,0,1] ⟨m,[],⟨[]⟩,{},k,os⟩ ⟨(eval (.Name amName pn) cenv).wrap (fun a=>.pure (.done (.ret a))) deadEnd gd lv,bB,p,[cfr kf,topFrame q0]⟩ =
      some ((.ret (.ref 218),⟨m,[],⟨[]⟩,{},k,os⟩,bB,pn),[225,225,3])
section
variable {w:World} {kf:Result→Sem PySem.Fin} {h:Heap} {t n k:Nat} {os:OsState} {p p' p₁:Pos} {d:Params→Obj}
theorem St.mono {α:Type} {x:Sem α} {s s':Shared} {a:α} (z:St w kf n x s p a s' p') (hk:n≤k):St w kf k x s p a s' p':=fun gd lv=>Steps.mono (z gd lv) hk
theorem St.name (N:gF d) (G:GoodD w.params (d w.params) h) {pn:Pos}:St w kf 8 (eval (.Name amName pn) cenv) (mk h t os) p (.ref 218) (mk h t os) pn :=
  St.ofO (t:=⟨h.objs.size,[],⟨[]⟩,{},t,os⟩) (t':=⟨h.objs.size,[],⟨[]⟩,{},t,os⟩) (res:=Flow.ret) (fun x hx=>by
    rcases List.mem_cons.mp hx with rfl | hx
    · exact G.ns
    · rcases List.mem_cons.mp hx with rfl | hx
      · exact G.top
      · cases hx) rfl ret_inj (fun gd lv=>N w os kf gd lv p pn _ _) rfl
theorem St.int_ (i:Int) (z:Nat×Pos×Pos):∃ q,St w kf 8 (eval (bI i z) cenv) (mk h t os) p (.int i (t+ng i)) (mk h (t+1+ng i) os) q:=by
  cases i with
  | ofNat n =>
    have y:St w kf 1 (eval (.Constant (.int (.ofNat n)) z.1 z.2.1) cenv) (mk h t os) p (.int (.ofNat n) t) (mk h (t+1) os) p:=St.mkInt
    exact ⟨_,St.mono y (by decide)⟩
  | negSucc n =>
    exact ⟨_,St.ofO (olds:=[]) (t:=⟨h.objs.size,[],⟨[]⟩,{},t,os⟩) (t':=⟨h.objs.size,[],⟨[]⟩,{},t+2,os⟩) (res:=Flow.ret) (fun x hx=>nomatch hx) rfl ret_inj (fun gd lv=>run_neg w os kf gd lv p z.2.1 z.2.2 _ _ z.1 (.ofNat (n+1))) rfl⟩
theorem star_bI (pc:Pos) (x:PySem.Expr) (i r:Int) (y z:Nat×Pos×Pos) (hx:∀ l,starEach (x::l) cenv=(false,eval x cenv)::starEach l cenv):backTo pc (starEach [x,bI i y,bI r z] cenv)=[(false,eval x cenv),(false,eval (bI i y) cenv),(false,eval (bI r z) cenv)]:=by
  rw [hx]; cases i <;> cases r <;> rfl
theorem tok_eq (t i r:Nat):t+1+1+i+1+r=t+3+i+r∧t+1+1+i+r=t+2+i+r∧t+3+i+r+10=t+13+i+r:=by lia
theorem St.elem (N:gF d) (G:GoodD w.params (d w.params) h) (x:Str) (i r:Int) (z:DE) :
    St w kf 200 (eval (bE (x,i,r) z) cenv) (mk h t os) p (.ref (h.objs.size+1)) (mk (bK h (kZ w.params h.objs.size (t+3+ng i+ng r) x t i (t+1+ng i) r (t+2+ng i+ng r))) (t+13+ng i+ng r) os) z.pc:=by
  obtain ⟨q2,z2⟩:=St.int_ (w:=w) (kf:=kf) (h:=h) (t:=t+1) (os:=os) (p:=z.pn) i z.a
  obtain ⟨q3,z3⟩:=St.int_ (w:=w) (kf:=kf) (h:=h) (t:=t+1+1+ng i) (os:=os) (p:=q2) r z.b
  have z1:St w kf 1 (eval (.Constant (.str x) z.k z.q) cenv) (mk h t os) z.pn (.str x t) (mk h (t+1) os) z.pn:=St.mkText
  have y:=St.amCall (pc:=z.pc) G.am (St.spliced_cons z1 (St.spliced_cons z2 (St.spliced_cons z3 St.spliced_nil)))
  rw [← star_bI z.pc _ i r z.a z.b (fun _=>rfl)] at y
  obtain ⟨q1,q2,q3⟩:=tok_eq t (ng i) (ng r)
  rw [q1,q2,q3] at y
  exact St.mono (n:=8+(1+(8+(8+0))+167)) (St.bind (m:=eval (.Name amName z.pn) cenv) (f:=fun f=>callWith z.pc f [] (backTo z.pc (starEach [.Constant (.str x) z.k z.q,bI i z.a,bI r z.b] cenv)) (backToKw z.pc (keywordEach [] cenv))) (St.name N G) y) (by decide)
theorem St.elems (N:gF d) {q:Pos} (ts:List (Str×Int×Int)):∀ {es:List PySem.Expr} {h:Heap} {t:Nat} {p:Pos},GoodD w.params (d w.params) h →
    ∃ t' p',St w kf (200 * ts.length) (spliced (backTo q (starEach (bL ts es) cenv))) (mk h t os) p (eG h.objs.size ts) (mk (bK h (dB w.params h.objs.size t ts)) t' os) p'∧t'=ts.foldl (fun a x=>a+13+ng x.2.1+ng x.2.2) t:=by
  induction ts with
  | nil=>exact fun {_ _ t p} _=>⟨t,p,St.spliced_nil,rfl⟩
  | cons x ts ih =>
    intro es h t p G
    obtain ⟨x,i,r⟩:=x
    have z1:=St.elem (kf:=kf) (t:=t) (os:=os) (p:=p) N G x i r (dE (es.headD default))
    obtain ⟨t',p',z2,e2⟩:=ih (es:=es.tail) (t:=t+13+ng i+ng r) (p:=(dE (es.headD default)).pc) (G.push (kZ w.params h.objs.size (t+3+ng i+ng r) x t i (t+1+ng i) r (t+2+ng i+ng r)))
    rw [← gI,show (bK h _).objs.size=h.objs.size+3 from iJ _ _] at z2
    refine ⟨t',p',?_,e2⟩
    have z:=St.spliced_cons (n:=200) z1 z2
    exact St.mono z (Nat.le_of_eq (Nat.add_comm _ _))
end
theorem pushAll_hp (l r:List Obj):bK (hp l) r=hp (l++r):=by
  refine heap_eq ?_ (fV _ _)
  rw [eK]
  show l.toArray++r.toArray=(l++r).toArray
  simp
theorem hp_get {l:List Obj} {a:Nat} {o:Obj} (e:l[a]?=some o) (al:alive o=some o):(hp l).get? a=some o :=
  nL (by show l.toArray[a]?=_; rw [List.getElem?_toArray]; exact e) al
theorem jF (P:Params):∀ (ts:List (Str×Int×Int)) (n t:Nat),(dB P n t ts).length=3 * ts.length
  | [],_,_=>rfl
  | (x,i,r)::ts,n,t=>by
    rw [dB,List.length_append,jF P ts,List.length_cons]
    show 3+_=_
    lia
theorem goodD_of {P:Params} {l:List Obj} {d:Obj} {m:Nat} (e:l.length=m+309) (hd:l[225]?=some d) (ad:alive d=some d) (h3:l[3]?=some (o3 P)) (a3:alive (o3 P)=some (o3 P))
    (ho:((oldsA P).map fun x=>l[x.1]?)=(oldsA P).map fun x=>some x.2) (hal:((oldsA P).map fun x=>alive x.2)=(oldsA P).map fun x=>some x.2):GoodD P d (hp l):=by
  refine ⟨⟨fun x hx=>?_,m,by show l.toArray.size=_; rw [List.size_toArray]; exact e⟩,hp_get hd ad,hp_get h3 a3⟩
  have e1:l[x.1]?=some x.2:=by
    have:∀ (q:List (Nat×Obj)),(q.map fun x=>l[x.1]?)=(q.map fun x=>some x.2)→∀ x∈q,l[x.1]?=some x.2:=by
      intro q
      induction q with
      | nil=>intro _ x hx; cases hx
      | cons y q ih =>
        intro e x hx
        simp only [List.map_cons,List.cons.injEq] at e
        rcases List.mem_cons.mp hx with rfl | hx
        · exact e.1
        · exact ih e.2 x hx
    exact this _ ho x hx
  have e2:alive x.2=some x.2:=by
    have:∀ (q:List (Nat×Obj)),(q.map fun x=>alive x.2)=(q.map fun x=>some x.2)→∀ x∈q,alive x.2=some x.2:=by
      intro q
      induction q with
      | nil=>intro _ x hx; cases hx
      | cons y q ih =>
        intro e x hx
        simp only [List.map_cons,List.cons.injEq] at e
        rcases List.mem_cons.mp hx with rfl | hx
        · exact e.1
        · exact ih e.2 x hx
    exact this _ hal x hx
  exact hp_get e1 e2
section
variable {w:World} {kf:Result→Sem PySem.Fin} {os:OsState} {p p' p₁:Pos}
theorem St.ofT {α:Type} {x:Sem α} {a:α} {res:α→Flow} {l l':List Obj} {n n' t t' f:Nat} (inj:∀ a',res a'=res a→a'=a) (e1:n=l.length) (e2:n'=l'.length) (b1:Nat.blt n 4096=true) (b2:Nat.blt n' 4096=true)
    (e:∀ gd lv,segRunT treeTable pw w 11 an6 2 f (stT l n t os) ⟨x.wrap (fun a=>.pure (.done (res a))) deadEnd gd lv,bB,p,[cfr kf,topFrame q0]⟩=some (res a,stT l' n' t' os,bB,p')) :
    St w kf f x (stS l t os) p a (stS l' t' os) p':=fun gd lv=>by
  have:=Steps.of_segT (res:=res) (B:=[cfr kf,topFrame q0]) rfl inj (e gd lv)
  rwa [fD e1 b1,fD e2 b2] at this
theorem table_steps {d:Params→Obj} {L L':Params→List Obj} {n t t1 n1:Nat} {T:List (Str×Int×Int)} {st:Stmt} {id:Str} {pn:Pos} {es:List PySem.Expr} {pl pa:Pos}
    (h1:GoodD w.params (d w.params) (hp (L w.params))) (h2:(L w.params).length=n) (h3:gF d) (h4:st=.Assign [.Name id pn] (.List (bL T es) pl) pa) (h6:T.foldl (fun a x=>a+13+ng x.2.1+ng x.2.2) t=t1) (hn1:n+3 * T.length=n1)
    (hL':(L' w.params).length=n1+1) (b1:Nat.blt (n1+1) 4096=true)
    (h7:∀ gd lv p,segRunT treeTable pw w 11 an6 2 6 (stT (L w.params++dB w.params n t T) n1 t1 os) ⟨(newList (eG n T)).wrap (fun a=>.pure (.done (.ret a))) deadEnd gd lv,bB,p,[cfr kf,topFrame q0]⟩=some (.ret (.ref n1),stT (L w.params++aL w.params n t T) (n1+1) t1 os,bB,p))
    (h8:∀ gd lv p,segRunT treeTable pw w 11 an6 2 16 (stT (L w.params++aL w.params n t T) (n1+1) t1 os) ⟨(assignStores cenv (.ref n1) none ((assignEach [.Name id pn] cenv).map (·.2))).wrap (fun a=>.pure (.done (_root_.id a))) deadEnd gd lv,bB,p,[cfr kf,topFrame q0]⟩=some (.next,stT (L' w.params) (n1+1) (t1+1) os,bB,pn)) :
    St w kf (200 * T.length+24) (exec st cenv) (stS (L w.params) t os) p .next (stS (L' w.params) (t1+1) os) pn:=by
  rw [h4,arm_exec_Assign]
  have hs:(hp (L w.params)).objs.size=n:=by show (L w.params).toArray.size=n; rw [List.size_toArray]; exact h2
  obtain ⟨t',p',z,e⟩:=St.elems (kf:=kf) (os:=os) (p:=pl) (q:=pl) h3 T (es:=es) h1 (t:=t)
  rw [hs,pushAll_hp] at z
  rw [h6] at e
  subst e
  have b0:Nat.blt n1 4096=true:=Nat.ble_eq_true_of_le (by have:=Nat.le_of_ble_eq_true b1; lia)
  have l1:(L w.params++dB w.params n t T).length=n1:=by rw [List.length_append,jF,h2]; exact hn1
  have l2:(L w.params++aL w.params n t T).length=n1+1:=by rw [aL,← List.append_assoc,List.length_append,l1]; rfl
  have y1:St w kf 6 (newList (eG n T)) (stS (L w.params++dB w.params n t T) t' os) p' (.ref n1) (stS (L w.params++aL w.params n t T) t' os) p' :=
    St.ofT (res:=Flow.ret) ret_inj l1.symm l2.symm b0 b1 fun gd lv=>h7 gd lv p'
  have y2:St w kf 16 (assignStores cenv (.ref n1) none ((assignEach [.Name id pn] cenv).map (·.2))) (stS (L w.params++aL w.params n t T) t' os) p' .next (stS (L' w.params) (t'+1) os) pn :=
    St.ofT (res:=_root_.id) (fun _ e=>e) l2.symm hL'.symm b1 b1 fun gd lv=>h8 gd lv p'
  have y3:St w kf (1+(200 * T.length+6)) (eval (.List (bL T es) pl) cenv) (stS (L w.params) t os) pa (.ref n1) (stS (L w.params++aL w.params n t T) t' os) p':=by
    rw [arm_eval_List]
    exact St.bind St.standAt (St.bind z y1)
  have y:St w kf (1+(0+((1+(200 * T.length+6))+(0+16)))) (do
      standAt pa
      if ← swapsWithSole [.Name id pn] (.List (bL T es) pl) pa.line cenv then do
        evalThenUse (.List (bL T es) pl) cenv fun v=>assignAll v ((assignEach [.Name id pn] cenv).map (·.2))
        pure .next
      else do
        let v ← eval (.List (bL T es) pl) cenv
        assignStores cenv v (← swappedStores [.Name id pn] (.List (bL T es) pl) cenv) ((assignEach [.Name id pn] cenv).map (·.2))) (stS (L w.params) t os) p .next (stS (L' w.params) (t'+1) os) pn:=by
    refine St.bind St.standAt ?_
    refine St.bind (a:=false) St.pure ?_
    rw [if_neg Bool.false_ne_true]
    exact St.bind y3 (St.bind (a:=none) St.pure y2)
  exact St.mono y (by lia)
end
noncomputable def te (j:Nat):List PySem.Expr:=(tp (stC 6 (14+j))).2
noncomputable def ti (j:Nat):Str:=(tp (stC 6 (14+j))).1
noncomputable abbrev pj (j:Nat):Pos:=⟨606+j,4,606+j,7⟩
theorem nX {w:World} {os:OsState} {kf:Result→Sem PySem.Fin} {p:Pos} (j n t n1 t1 c:Nat) (T:List (Str×Int×Int))
    (h0:gF (x225 (14+j)))
    (h1:stC 6 (14+j)=.Assign [.Name (ti j) (pj j)] (.List (bL T (te j)) ⟨606+j,10,606+j,c⟩) ⟨606+j,4,606+j,c⟩:=by kernel_rfl)
    (g1:Nat.ble 309 n=true:=by kernel_rfl) (g2:∀ P,(LT j P)[225]?=some (x225 (14+j) P):=by intros; kernel_rfl) (g3:∀ P,(LT j P)[3]?=some (o3 P):=by intros; kernel_rfl)
    (g4:∀ P,((oldsA P).map fun x=>(LT j P)[x.1]?)=(oldsA P).map fun x=>some x.2:=by intros; kernel_rfl)
    (h3:∀ P,(LT j P).length=n:=by intros; kernel_rfl) (h5:T.foldl (fun a x=>a+13+ng x.2.1+ng x.2.2) t=t1:=by kernel_rfl)
    (h6:n+3 * T.length=n1:=by kernel_rfl) (h7:∀ P,(LT (j+1) P).length=n1+1:=by intros; kernel_rfl) (h8:Nat.blt (n1+1) 4096=true:=by kernel_rfl)
    (h9:∀ (w:World) (os:OsState) (kf:Result→Sem PySem.Fin) (gd:Bool→Bool) (lv:List Value→List Value) (p:Pos),segRunT treeTable pw w 11 an6 2 6 (stT (LT j w.params++dB w.params n t T) n1 t1 os) ⟨(newList (eG n T)).wrap (fun a=>.pure (.done (.ret a))) deadEnd gd lv,bB,p,[cfr kf,topFrame q0]⟩=some (.ret (.ref n1),stT (LT j w.params++aL w.params n t T) (n1+1) t1 os,bB,p):=by intros; kernel_rfl)
    (h10:∀ (w:World) (os:OsState) (kf:Result→Sem PySem.Fin) (gd:Bool→Bool) (lv:List Value→List Value) (p:Pos),segRunT treeTable pw w 11 an6 2 16 (stT (LT j w.params++aL w.params n t T) (n1+1) t1 os) ⟨(assignStores cenv (.ref n1) none ((assignEach [.Name (ti j) (pj j)] cenv).map (·.2))).wrap (fun a=>.pure (.done (_root_.id a))) deadEnd gd lv,bB,p,[cfr kf,topFrame q0]⟩=some (.next,stT (LT (j+1) w.params) (n1+1) (t1+1) os,bB,pj j):=by intros; kernel_rfl)
    (h11:Nat.ble (200 * T.length+24) 5000=true:=by rfl):St w kf 5000 (exec (stC 6 (14+j)) cenv) (stS (LT j w.params) t os) p .next (stS (LT (j+1) w.params) (t1+1) os) (pj j) :=
  St.mono (table_steps (T:=T) (n:=n) (n1:=n1) (d:=x225 (14+j)) (L:=LT j) (L':=LT (j+1)) (goodD_of (m:=n - 309) ((h3 _).trans (Nat.sub_add_cancel (Nat.le_of_ble_eq_true g1)).symm) (g2 _) rfl (g3 _) (by kernel_rfl) (g4 _) (by kernel_rfl)) (h3 _) h0 h1 h5 h6 (h7 _) h8 (h9 w os kf) (h10 w os kf)) (Nat.le_of_ble_eq_true h11)
theorem name0:gF (x225 14):=fun w os kf gd lv p pn m k=>by kernel_rfl
theorem table0 (w:World) (os:OsState) (kf:Result→Sem PySem.Fin) (p:Pos):St w kf 5000 (exec (stC 6 14) cenv) (stS (LT 0 w.params) 623 os) p .next (stS (LT 1 w.params) 846 os) ⟨606,4,606,7⟩:=nX 0 309 623 360 845 335 T0 name0
theorem name1:gF (x225 15):=fun w os kf gd lv p pn m k=>by kernel_rfl
theorem table1 (w:World) (os:OsState) (kf:Result→Sem PySem.Fin) (p:Pos):St w kf 5000 (exec (stC 6 15) cenv) (stS (LT 1 w.params) 846 os) p .next (stS (LT 2 w.params) 935 os) ⟨607,4,607,7⟩:=nX 1 361 846 379 934 132 T1 name1
theorem name2:gF (x225 16):=fun w os kf gd lv p pn m k=>by kernel_rfl
theorem table2 (w:World) (os:OsState) (kf:Result→Sem PySem.Fin) (p:Pos):St w kf 5000 (exec (stC 6 16) cenv) (stS (LT 2 w.params) 935 os) p .next (stS (LT 3 w.params) 1185 os) ⟨608,4,608,7⟩:=nX 2 380 935 431 1184 377 T2 name2
theorem name3:gF (x225 17):=fun w os kf gd lv p pn m k=>by kernel_rfl
theorem table3 (w:World) (os:OsState) (kf:Result→Sem PySem.Fin) (p:Pos):St w kf 5000 (exec (stC 6 17) cenv) (stS (LT 3 w.params) 1185 os) p .next (stS (LT 4 w.params) 1482 os) ⟨609,4,609,7⟩:=nX 3 432 1185 492 1481 489 T3 name3
theorem name4:gF (x225 18):=fun w os kf gd lv p pn m k=>by kernel_rfl
theorem table4 (w:World) (os:OsState) (kf:Result→Sem PySem.Fin) (p:Pos):St w kf 5000 (exec (stC 6 18) cenv) (stS (LT 4 w.params) 1482 os) p .next (stS (LT 5 w.params) 1513 os) ⟨610,4,610,7⟩:=nX 4 493 1482 499 1512 55 T4 name4
theorem name5:gF (x225 19):=fun w os kf gd lv p pn m k=>by kernel_rfl
theorem table5 (w:World) (os:OsState) (kf:Result→Sem PySem.Fin) (p:Pos):St w kf 5000 (exec (stC 6 19) cenv) (stS (LT 5 w.params) 1513 os) p .next (stS (LT 6 w.params) 1872 os) ⟨611,4,611,7⟩:=nX 5 500 1513 572 1871 584 T5 name5
theorem name6:gF (x225 20):=fun w os kf gd lv p pn m k=>by kernel_rfl
theorem table6 (w:World) (os:OsState) (kf:Result→Sem PySem.Fin) (p:Pos):St w kf 5000 (exec (stC 6 20) cenv) (stS (LT 6 w.params) 1872 os) p .next (stS (LT 7 w.params) 1918 os) ⟨612,4,612,7⟩:=nX 6 573 1872 582 1917 75 T6 name6
theorem name7:gF (x225 21):=fun w os kf gd lv p pn m k=>by kernel_rfl
theorem table7 (w:World) (os:OsState) (kf:Result→Sem PySem.Fin) (p:Pos):St w kf 5000 (exec (stC 6 21) cenv) (stS (LT 7 w.params) 1918 os) p .next (stS (LT 8 w.params) 1949 os) ⟨613,4,613,7⟩:=nX 7 583 1918 589 1948 55 T7 name7
theorem name8:gF (x225 22):=fun w os kf gd lv p pn m k=>by kernel_rfl
theorem table8 (w:World) (os:OsState) (kf:Result→Sem PySem.Fin) (p:Pos):St w kf 5000 (exec (stC 6 22) cenv) (stS (LT 8 w.params) 1949 os) p .next (stS (LT 9 w.params) 2052 os) ⟨614,4,614,7⟩:=nX 8 590 1949 611 2051 159 T8 name8
theorem name9:gF (x225 23):=fun w os kf gd lv p pn m k=>by kernel_rfl
theorem table9 (w:World) (os:OsState) (kf:Result→Sem PySem.Fin) (p:Pos):St w kf 5000 (exec (stC 6 23) cenv) (stS (LT 9 w.params) 2052 os) p .next (stS (LT 10 w.params) 2327 os) ⟨615,4,615,7⟩:=nX 9 612 2052 669 2326 393 T9 name9
noncomputable abbrev ch (c:Nat):Str:=⟨⟨[c]⟩⟩
noncomputable def sob (S:SI):Obj:=⟨.type "set",none,S.data,#[]⟩
noncomputable def nI (i:Int):Flow:=.ret (.int i 0)
theorem run_hash (os:OsState) (kf:Result→Sem PySem.Fin) (gd:Bool→Bool) (lv:List Value→List Value) (p:Pos) (m k c tk:Nat) (w:World) :
    dZ [] treeTable pw w 11 an6 2 20 [] ⟨m,[],⟨[]⟩,{},k,os⟩ ⟨(pyHash (.str (ch c) tk)).wrap (fun a=>.pure (.done (nI a))) deadEnd gd lv,bB,p,[cfr kf,topFrame q0]⟩ =
      some ((nI (PyData.keyHash w.params (ch c)),⟨m,[],⟨[]⟩,{},k+1,os⟩,bB,p),[]) :=
  byRow2 "special-get-raises" (P:=fun w=>dZ [] treeTable pw w 11 an6 2 20 [] ⟨m,[],⟨[]⟩,{},k,os⟩ ⟨(pyHash (.str (ch c) tk)).wrap (fun a=>.pure (.done (nI a))) deadEnd gd lv,bB,p,[cfr kf,topFrame q0]⟩ =
      some ((nI (PyData.keyHash w.params (ch c)),⟨m,[],⟨[]⟩,{},k+1,os⟩,bB,p),[])) (fun w=>by kernel_rfl) (fun w=>by kernel_rfl) w
theorem hp_last (l:List Obj) (o:Obj) (al:alive o=some o):(hp (l++[o])).get? l.length=some o:=hp_get (by simp) al
theorem hp_update_last (l:List Obj) (o:Obj) (f:Obj→Obj):(hp (l++[o])).update l.length f=hp (l++[f o]):=by
  refine heap_eq ?_ (mP _ _ _)
  rw [mO]
  show (l++[o]).toArray.modify l.length f=(l++[f o]).toArray
  apply Array.ext_getElem?
  intro j
  rw [Array.getElem?_modify,List.getElem?_toArray,List.getElem?_toArray]
  by_cases h:j < l.length
  · rw [List.getElem?_append_left h,List.getElem?_append_left h,if_neg (by lia)]
  · by_cases e:l.length=j
    · subst e; simp
    · rw [if_neg e,List.getElem?_eq_none (by simp; lia),List.getElem?_eq_none (by simp; lia)]
section
variable {w:World} {kf:Result→Sem PySem.Fin} {α β:Type} {s s' s₁:Shared} {p p' p₁:Pos} {n k t:Nat} {os:OsState} {L:List Obj} {S:SI}
theorem St.load {d:Addr} {o:Obj} (ho:s.heap.get? d=some o):St w kf 1 (PySem.load d) s p o s p:=fun _ _=>Steps.load_ ho Steps.pure
theorem St.rule {tag:String}:St w kf 1 (PySem.rule tag) s p () s p:=fun _ _=>Steps.rule_ Steps.pure
theorem St.update {d:Addr} {o:Obj} {f:Obj→Obj} (ho:s.heap.get? d=some o) (hn:11≤d):St w kf 1 (PySem.update d f) s p () { s with heap:=s.heap.update d f } p:=fun _ _=>Steps.update_ ho hn Steps.pure
theorem St.alloc {o:Obj}:St w kf 1 (PySem.alloc o) s p s.heap.objs.size { s with heap:=s.heap.push o } p:=fun _ _=>Steps.alloc_ Steps.pure
theorem St.ask:St w kf 1 PySem.ask s p ⟨pw,w.params⟩ s p:=fun _ _=>Steps.ask_ Steps.pure
theorem St.setState (hf:S.t.fits S.es.size=true):St w kf 1 (setState L.length) (stS (L++[sob S]) t os) p (S.es,S.ep,S.t) (stS (L++[sob S]) t os) p:=by
  unfold PySem.setState
  have hc:(S.t.place.size != S.es.size || decide (S.t.fill > S.t.mask))=false:=by
    unfold SetTable.fits at hf
    simp only [Bool.and_eq_true,beq_iff_eq,decide_eq_true_eq] at hf
    simp only [Bool.or_eq_false_iff,bne_eq_false_iff_eq,decide_eq_false_iff_not]
    exact ⟨hf.1,by lia⟩
  refine St.bind (n:=1) (k:=0) (St.load (o:=sob S) (hp_last L (sob S) rfl)) ?_
  show St w kf 0 (if (S.t.place.size != S.es.size || decide (S.t.fill > S.t.mask))=true then _ else _) _ _ _ _ _
  rw [hc,if_neg Bool.false_ne_true]
  exact St.pure
theorem St.storeSet {es:Array (Int×Value)} {ta:SetTable} (hL:11≤L.length) (hs:es.size≤sizeLine):St w kf 2 (storeSet L.length es ta) (stS (L++[sob S]) t os) p () (stS (L++[sob ⟨es,S.ep+1,ta⟩]) t os) p:=by
  unfold PySem.storeSet
  refine St.bind (n:=1) (k:=1) (St.load (o:=sob S) (hp_last L (sob S) rfl)) ?_
  show St w kf 1 (if es.size > sizeLine then _ else _) _ _ _ _ _
  rw [if_neg (by lia)]
  have:=St.update (w:=w) (kf:=kf) (s:=stS (L++[sob S]) t os) (p:=p) (f:=Obj.putSet es ta) (hp_last L (sob S) rfl) hL
  have e:({ stS (L++[sob S]) t os with heap:=(stS (L++[sob S]) t os).heap.update L.length (Obj.putSet es ta) }:Shared)=stS (L++[sob ⟨es,S.ep+1,ta⟩]) t os:=by
    show (⟨(hp (L++[sob S])).update L.length (Obj.putSet es ta),_,_,_,_⟩:Shared)=_
    rw [hp_update_last]
    rfl
  rw [e] at this
  exact this
theorem St.hash {c tk:Nat} {l:List Obj}:St w kf 20 (pyHash (.str (ch c) tk)) (stS l t os) p (PyData.keyHash w.params (ch c)) (stS l (t+1) os) p :=
  St.ofO (olds:=[]) (h:=hp l) (t:=⟨(hp l).objs.size,[],⟨[]⟩,{},t,os⟩) (t':=⟨(hp l).objs.size,[],⟨[]⟩,{},t+1,os⟩) (res:=nI) (fun x hx=>nomatch hx) rfl (fun a' e=>by cases e; rfl) (fun gd lv=>run_hash os kf gd lv p _ t c tk w) rfl
end
theorem SI.Ok.size {P:Params} {S:SI} {l:List (Nat×Tok)} (h:S.Ok P l):S.es.size=l.length:=by
  rw [← Array.length_toList,h.1.length_eq,List.length_map]
theorem SI.Ok.all {P:Params} {S:SI} {l:List (Nat×Tok)} (h:S.Ok P l) {q:Int×Value→Bool} (hq:∀ x∈l,q (PyData.keyHash P (ch x.1),.str (ch x.1) x.2)=true):S.es.all q=true:=by
  rw [← Array.all_toList,List.all_eq_true]
  intro e he
  obtain ⟨x,hx,rfl⟩:=List.mem_map.mp (h.1.mem_iff.mp he)
  exact hq x hx
theorem SI.Ok.none {P:Params} {S:SI} {l:List (Nat×Tok)} (h:S.Ok P l) {c:Nat} (hc:∀ x∈l,x.1≠c):S.es.findIdx? (fun e=>e.2.isStr (ch c))=none:=by
  rw [Array.findIdx?_eq_none_iff]
  intro e he
  obtain ⟨x,hx,rfl⟩:=List.mem_map.mp (h.1.mem_iff.mp (Array.mem_toList_iff.mpr he))
  show ((ch x.1) == (ch c))=false
  rw [beq_eq_false_iff_ne]
  intro z
  apply hc x hx
  have:=congrArg (fun s:Str=>s.cps.toList) z
  simpa using this
section
variable {w:World} {kf:Result→Sem PySem.Fin} {α β:Type} {s s' s₁:Shared} {p p' p₁:Pos} {n k t:Nat} {os:OsState} {L:List Obj} {S:SI} {l:List (Nat×Tok)}
theorem St.rule_or {tag:String} (b:Bool) {f:Unit→Sem α} {a:α} (h:St w kf n (f ()) s p a s' p'):St w kf (1+n) ((match b with | true=>PySem.rule tag | false=>(Pure.pure ():Sem Unit)) >>= f) s p a s' p':=by
  cases b
  · exact St.mono (St.bind (n:=0) St.pure h) (by lia)
  · exact St.bind (n:=1) St.rule h
theorem St.add (hL:11≤L.length) (h:S.Ok w.params l) (hl:l.length < 1000) {c tk:Nat} (hc:∀ x∈l,x.1≠c) :
    St w kf 40 (setAdd L.length (.str (ch c) tk)) (stS (L++[sob S]) t os) p true (stS (L++[sob (S.put w.params (ch c) tk)]) (t+1) os) p:=by
  have hsz:=h.size
  have hsb:byScan (.str (ch c) tk) S.es=true:=by
    unfold byScan
    simp only [Bool.and_eq_true]
    refine ⟨⟨rfl,?_⟩,h.all fun x hx=>rfl⟩
    rw [decide_eq_true_eq]; unfold scanBound; lia
  have hex:S.es.all (fun e=>isExactStrKey e.2)=true:=h.all fun x hx=>rfl
  have hno:=h.none hc
  have hok:=SI.ok_put h c tk
  have hsz2:=hok.size
  rw [List.length_append] at hsz2
  have p1:=layNew_perm S.t S.es (PyData.keyHash w.params (ch c)) (.str (ch c) tk)
  have l1:(layNew S.t S.es (PyData.keyHash w.params (ch c)) (.str (ch c) tk)).1.size≤sizeLine:=by
    have:=p1.length_eq
    rw [Array.length_toList,Array.length_toList,Array.size_push] at this
    rw [this,sizeLine_eq]; lia
  have key:St w kf (1+(0+(1+(0+(2+4))))) (setAddByScan L.length (.str (ch c) tk) (PyData.keyHash w.params (ch c)) S.es S.t) (stS (L++[sob S]) (t+1) os) p (some true) (stS (L++[sob (S.put w.params (ch c) tk)]) (t+1) os) p:=by
    unfold setAddByScan
    refine St.bind (n:=1) St.rule ?_
    have sc:setScan L.length (.str (ch c) tk) (PyData.keyHash w.params (ch c)) true S.es=Pure.pure .absent:=by
      unfold setScan
      dsimp only
      rw [if_pos hex]
      unfold setScanStrs
      rw [hno]
    rw [sc]
    refine St.bind (n:=0) (a:=ScanMet.absent) St.pure ?_
    dsimp only
    unfold SI.put
    dsimp only
    generalize layNew S.t S.es (PyData.keyHash w.params (ch c)) (.str (ch c) tk)=r at l1 ⊢
    obtain ⟨es1,t1,wd,gave⟩:=r
    dsimp only at l1 ⊢
    refine St.rule_or gave ?_
    obtain ⟨a1,a2,a3,a4,a5,a6,pl⟩:=t1
    cases pl
    rw [if_neg Bool.false_ne_true]
    refine St.bind (n:=0) (a:=true) St.pure ?_
    rotate_left
    rw [if_pos rfl]
    refine St.bind (n:=0) (a:=false) St.pure ?_
    all_goals
      simp only [if_true,Bool.false_eq_true,if_false]
      refine St.bind (n:=2) (St.storeSet hL l1) ?_
      cases hq:(!wd && SetTable.tooFull ⟨a1,a2,a3,a4,a5,a6,false⟩) with
      | false =>
        rw [if_neg Bool.false_ne_true]
        exact St.mono (St.bind (n:=0) St.pure St.pure) (by lia)
      | true =>
        rw [if_pos rfl]
        dsimp only
        have p2:=relayAll_perm ⟨a1,a2,a3,a4,a5,a6,false⟩ es1 (SetTable.grown es1.size)
        have l2:(relayAll ⟨a1,a2,a3,a4,a5,a6,false⟩ es1 (SetTable.grown es1.size)).1.size≤sizeLine:=by
          have:=p2.length_eq
          rw [Array.length_toList,Array.length_toList] at this
          lia
        generalize relayAll ⟨a1,a2,a3,a4,a5,a6,false⟩ es1 (SetTable.grown es1.size)=r2 at l2 ⊢
        obtain ⟨es2,t2,gave2⟩:=r2
        dsimp only at l2 ⊢
        refine St.mono (n:=1+(2+0)) ?_ (by lia)
        refine St.rule_or gave2 ?_
        exact St.bind (n:=2) (St.storeSet (S:=⟨es1,S.ep+1,⟨a1,a2,a3,a4,a5,a6,false⟩⟩) hL l2) St.pure
  have y:St w kf (20+(1+(1+(0+(1+(0+(2+4))))+0))) (setAdd L.length (.str (ch c) tk)) (stS (L++[sob S]) t os) p true (stS (L++[sob (S.put w.params (ch c) tk)]) (t+1) os) p:=by
    unfold setAdd
    refine St.holding (St.bind St.hash ?_)
    unfold setAddHashed
    refine St.holding ?_
    unfold setAddHashedIn
    refine St.bind (St.setState h.2) ?_
    dsimp only
    rw [if_pos hsb]
    refine St.bind key ?_
    exact St.pure
  exact St.mono y (by lia)
end
noncomputable def valsOf:Nat→List Nat→List Value
  | _,[]=>[]
  | tk,c::r=>.str (ch c) tk::valsOf (tk+1) r
noncomputable def bS:List Nat→List PySem.Expr→List PySem.Expr
  | [],_=>[]
  | c::cs,es=>.Constant (.str (ch c)) (zI (es.headD default)).1 (zI (es.headD default)).2.1::bS cs es.tail
section
variable {w:World} {kf:Result→Sem PySem.Fin} {α β:Type} {s s' s₁:Shared} {p p' p₁:Pos} {n k t:Nat} {os:OsState} {L:List Obj}
theorem St.adds (hL:11≤L.length) {f:Value→PUnit→Sem (ForInStep PUnit)} (hf:∀ x,f x PUnit.unit=(setAdd L.length x >>= fun _=>Pure.pure (.yield PUnit.unit))) :
    ∀ (cs:List Nat) (S:SI) (l:List (Nat×Tok)) (tk t:Nat),S.Ok w.params l→(∀ x∈l,∀ c∈cs,x.1≠c)→cs.Nodup→l.length+cs.length < 1000 →
      St w kf (40 * cs.length) (forIn (valsOf tk cs) PUnit.unit f) (stS (L++[sob S]) t os) p PUnit.unit (stS (L++[sob (S.puts w.params tk cs)]) (t+cs.length) os) p
  | [],S,l,tk,t,h,_,_,_=>by
    rw [valsOf,List.forIn_nil]
    exact St.pure
  | c::cs,S,l,tk,t,h,hd,hn,hl=>by
    rw [valsOf,List.forIn_cons,hf]
    rw [List.length_cons] at hl ⊢
    obtain ⟨hc,hn'⟩:=List.nodup_cons.mp hn
    have a1:=St.add (w:=w) (kf:=kf) (p:=p) (t:=t) (os:=os) (tk:=tk) hL h (by lia) (fun x hx=>hd x hx c List.mem_cons_self)
    have a2:=St.adds hL hf cs (S.put w.params (ch c) tk) (l++[(c,tk)]) (tk+1) (t+1) (SI.ok_put h c tk) (fun x hx c' hc'=>by
      rcases List.mem_append.mp hx with hx | hx
      · exact hd x hx c' (List.mem_cons_of_mem _ hc')
      · rw [List.mem_singleton] at hx
        subst hx
        intro e
        have e':c=c':=e
        exact hc (e'▸hc')) hn' (by rw [List.length_append]; simp; lia)
    have e1:t+(cs.length+1)=t+1+cs.length:=by lia
    rw [e1]
    rw [show S.puts w.params tk (c::cs)=(S.put w.params (ch c) tk).puts w.params (tk+1) cs from by rw [SI.puts]]
    refine St.mono (n:=(40+0)+40 * cs.length) ?_ (by lia)
    refine St.bind (a:=ForInStep.yield PUnit.unit) (St.bind (f:=fun _=>Pure.pure (ForInStep.yield PUnit.unit)) a1 St.pure) ?_
    exact a2
theorem St.consts {q:Pos} {l:List Obj} (cs:List Nat):∀ {es:List PySem.Expr} {t:Nat} {p:Pos},
    ∃ p',St w kf (2 * cs.length) (evalAll ((evalEach (bS cs es) cenv).map fun t=>do let v ← t; PySem.standAt q; Pure.pure v)) (stS l t os) p (valsOf t cs) (stS l (t+cs.length) os) p':=by
  induction cs with
  | nil=>exact fun {_ _ p}=>⟨p,St.pure⟩
  | cons c cs ih =>
    intro es t p
    obtain ⟨p',z⟩:=ih (es:=es.tail) (t:=t+1) (p:=q)
    rw [Nat.add_right_comm] at z
    have m1:St w kf 1 (eval (.Constant (.str (ch c)) (zI (es.headD default)).1 (zI (es.headD default)).2.1) cenv) (stS l t os) p (.str (ch c) t) (stS l (t+1) os) p:=St.mkText
    have y:=St.bind (f:=fun r=>Pure.pure (Value.str (ch c) t::r)) (St.holding (vs:=[.str (ch c) t]) z) St.pure
    exact ⟨p',St.mono (St.bind (St.bind m1 (St.bind St.standAt St.pure)) y) (Nat.le_of_eq (Nat.add_comm _ _))⟩
theorem St.newSet {l:List Obj}:St w kf 2 (newSet (.type "set")) (stS l t os) p (.ref l.length) (stS (l++[sob (SI.fresh (!w.params.followText "set-order"))]) t os) p:=by
  unfold PySem.newSet
  have e:∀ o,({ stS l t os with heap:=(stS l t os).heap.push o }:Shared)=stS (l++[o]) t os:=fun o=>by
    show (⟨(hp l).push o,_,_,_,_⟩:Shared)=_
    have:=pushAll_hp l [o]
    show (⟨bK (hp l) [o],_,_,_,_⟩:Shared)=_
    rw [this]; rfl
  have a:=St.alloc (w:=w) (kf:=kf) (s:=stS l t os) (p:=p) (o:=sob (SI.fresh (!w.params.followText "set-order")))
  rw [e] at a
  have y:St w kf (1+(0+(1+(0+0)))) (do
      let b ← setsByText
      newObj (.type "set") (.set #[] 0 (.fresh (finger:=0) (moves:=0) (led:=!b)))) (stS l t os) p (.ref l.length) (stS (l++[sob (SI.fresh (!w.params.followText "set-order"))]) t os) p:=by
    refine St.bind (St.bind (f:=fun x:Setting=>Pure.pure (x.params.followText "set-order")) St.ask St.pure) ?_
    unfold newObj
    dsimp only
    rw [if_neg (by show ¬ (0 > sizeLine); lia)]
    refine St.mono (n:=1+(0+0)) ?_ (by lia)
    unfold newObjAsIs
    exact St.bind (k:=0) a St.pure
  exact St.mono y (by lia)
theorem St.unled {S:SI} (hL:11≤L.length) (hf:S.t.fits S.es.size=true) (hs:S.es.size≤sizeLine):St w kf 3 (setUnled L.length) (stS (L++[sob S]) t os) p () (stS (L++[sob S.shut]) t os) p:=by
  unfold setUnled
  exact St.bind (n:=1) (k:=2) (St.setState hf) (St.storeSet hL hs)
theorem St.display {b:Bool} {es:List PySem.Expr} {cs:List Nat} {q:Pos} (hL:11≤L.length) (hp1:(bS cs es).all kdsPlain=true) (hlen:(bS cs es).length≤30) (hn:cs.Nodup) (hcl:cs.length≤30) :
    ∃ p',St w kf (2+(2 * cs.length+(40 * cs.length+4))) (setDisplay .unsure b ((starEach (bS cs es) cenv).map fun x=>(x.1,do let v ← x.2; PySem.standAt q; Pure.pure v))) (stS L t os) p (.ref L.length) (stS (L++[sob (setI w.params t cs)]) (t+cs.length+cs.length) os) p':=by
  obtain ⟨p',z⟩:=St.consts (w:=w) (kf:=kf) (os:=os) (q:=q) (l:=L++[sob (SI.fresh (!w.params.followText "set-order"))]) (t:=t) (p:=p) cs (es:=es)
  refine ⟨p',?_⟩
  rw [kds_star (bS cs es) hp1,List.map_map]
  have e1:((evalEach (bS cs es) cenv).map ((fun x:Bool×Sem Value=>(x.1,do let v ← x.2; PySem.standAt q; Pure.pure v)) ∘ fun t=>(false,t))).findIdx? (·.1)=none:=by
    refine List.findIdx?_eq_none_iff.mpr fun x hx=>?_
    obtain ⟨t,_,rfl⟩:=List.mem_map.mp hx
    rfl
  have e2:((evalEach (bS cs es) cenv).map ((fun x:Bool×Sem Value=>(x.1,do let v ← x.2; PySem.standAt q; Pure.pure v)) ∘ fun t=>(false,t))).length≤30:=by rw [List.length_map,kds_len]; exact hlen
  have e3:((evalEach (bS cs es) cenv).map ((fun x:Bool×Sem Value=>(x.1,do let v ← x.2; PySem.standAt q; Pure.pure v)) ∘ fun t=>(false,t))).map (·.2)=(evalEach (bS cs es) cenv).map fun t=>(do let v ← t; PySem.standAt q; Pure.pure v):=by
    rw [List.map_map]; rfl
  generalize ((evalEach (bS cs es) cenv).map ((fun x:Bool×Sem Value=>(x.1,do let v ← x.2; PySem.standAt q; Pure.pure v)) ∘ fun t=>(false,t)))=E at e1 e2 e3
  have hn':(if E.length > 30 then 0 else (E.findIdx? (·.1)).getD E.length)=E.length:=by rw [if_neg (by lia),e1]; rfl
  unfold setDisplay
  dsimp only
  rw [if_neg (by decide)]
  refine St.bind St.newSet ?_
  dsimp only
  rw [hn',List.take_length,List.drop_length,e3]
  have ok:=setI_ok w.params t cs
  have okp:=SI.ok_puts (cs:=cs) (tk:=t) (SI.ok_fresh w.params (!w.params.followText "set-order"))
  have hsz:=okp.size
  refine St.mono (n:=(2 * cs.length+((40 * cs.length+(1+3))+(0+0)))+0) ?_ (by lia)
  refine St.bind (a:=()) (St.holding ?_) St.pure
  refine St.bind z ?_
  refine St.bind (a:=()) (s₁:=stS (L++[sob (setI w.params t cs)]) (t+cs.length+cs.length) os) (p₁:=p') (St.holding ?_) ?_
  · refine St.bind (St.adds hL (fun x=>rfl) cs _ [] t (t+cs.length) (SI.ok_fresh _ _) (fun x hx=>nomatch hx) hn (by simp; lia)) ?_
    rw [if_pos (by decide)]
    refine St.bind St.rule (St.unled hL okp.2 ?_)
    rw [hsz,sizeLine_eq]; simp; lia
  · rw [List.forIn_nil]
    exact St.bind (n:=0) (a:=PUnit.unit) St.pure St.pure
end
noncomputable def iA:Bool→Flow
  | true=>.next
  | false=>.brk
section
variable {w:World} {kf:Result→Sem PySem.Fin} {os:OsState} {p p' p₁:Pos}
theorem set_steps {L L':Params→List Obj} {n t:Nat} {cs:List Nat} {st:Stmt} {id:Str} {pn:Pos} {es:List PySem.Expr} {k:Nat} {pl pa:Pos} {b:Bool}
    (h2:(L w.params).length=n) (hn:Nat.ble 11 n=true) (b1:Nat.blt (n+1) 4096=true) (h4:st=.Assign [.Name id pn] (.Set (bS cs es) k pl) pa) (h6:displayRoad k (bS cs es)=.unsure) (h7:(bS cs es).all kdsPlain=true) (h8:Nat.ble (bS cs es).length 30=true) (h9:cs.Nodup) (h10:Nat.ble cs.length 30=true)
    (hL':(L' w.params).length=n+1)
    (hm:∀ gd lv p,segRunT treeTable pw w 11 an6 2 10 (stT (L w.params) n t os) ⟨(inMainModule cenv).wrap (fun a=>.pure (.done (iA a))) deadEnd gd lv,bB,p,[cfr kf,topFrame q0]⟩=some (iA b,stT (L w.params) n t os,bB,p))
    (ha:∀ gd lv p,segRunT treeTable pw w 11 an6 2 16 (stT (L w.params++[sob (setI w.params t cs)]) (n+1) (t+cs.length+cs.length) os) ⟨(assignStores cenv (.ref n) none ((assignEach [.Name id pn] cenv).map (·.2))).wrap (fun a=>.pure (.done (_root_.id a))) deadEnd gd lv,bB,p,[cfr kf,topFrame q0]⟩=some (.next,stT (L' w.params) (n+1) (t+cs.length+cs.length+1) os,bB,pn)) :
    St w kf 1400 (exec st cenv) (stS (L w.params) t os) p .next (stS (L' w.params) (t+cs.length+cs.length+1) os) pn:=by
  rw [h4,arm_exec_Assign]
  have b0:Nat.blt n 4096=true:=Nat.ble_eq_true_of_le (by have:=Nat.le_of_ble_eq_true b1; lia)
  have l1:(L w.params++[sob (setI w.params t cs)]).length=n+1:=by rw [List.length_append,h2]; rfl
  have hcl:=Nat.le_of_ble_eq_true h10
  obtain ⟨p',z⟩:=St.display (w:=w) (kf:=kf) (os:=os) (L:=L w.params) (t:=t) (p:=pl) (b:=b) (q:=pl) (by rw [h2]; exact Nat.le_of_ble_eq_true hn) h7 (es:=es) (Nat.le_of_ble_eq_true h8) h9 hcl
  rw [h2] at z
  have y1:St w kf 10 (inMainModule cenv) (stS (L w.params) t os) pl b (stS (L w.params) t os) pl :=
    St.ofT (res:=iA) (by intro a' e; cases a' <;> cases b <;> first | rfl | cases e) h2.symm h2.symm b0 b0 fun gd lv=>hm gd lv pl
  have y2:St w kf 16 (assignStores cenv (.ref n) none ((assignEach [.Name id pn] cenv).map (·.2))) (stS (L w.params++[sob (setI w.params t cs)]) (t+cs.length+cs.length) os) p' .next (stS (L' w.params) (t+cs.length+cs.length+1) os) pn :=
    St.ofT (res:=_root_.id) (fun _ e=>e) l1.symm hL'.symm b1 b1 fun gd lv=>ha gd lv p'
  have y3:St w kf (1+(10+(2+(2 * cs.length+(40 * cs.length+4))))) (eval (.Set (bS cs es) k pl) cenv) (stS (L w.params) t os) pa (.ref n) (stS (L w.params++[sob (setI w.params t cs)]) (t+cs.length+cs.length) os) p':=by
    rw [arm_eval_Set]
    refine St.bind St.standAt (St.bind y1 ?_)
    rw [h6]
    exact z
  have y:St w kf (1+(0+((1+(10+(2+(2 * cs.length+(40 * cs.length+4)))))+(0+16)))) (do
      standAt pa
      if ← swapsWithSole [.Name id pn] (.Set (bS cs es) k pl) pa.line cenv then do
        evalThenUse (.Set (bS cs es) k pl) cenv fun v=>assignAll v ((assignEach [.Name id pn] cenv).map (·.2))
        pure .next
      else do
        let v ← eval (.Set (bS cs es) k pl) cenv
        assignStores cenv v (← swappedStores [.Name id pn] (.Set (bS cs es) k pl) cenv) ((assignEach [.Name id pn] cenv).map (·.2))) (stS (L w.params) t os) p .next (stS (L' w.params) (t+cs.length+cs.length+1) os) pn:=by
    refine St.bind St.standAt ?_
    refine St.bind (a:=false) St.pure ?_
    rw [if_neg Bool.false_ne_true]
    exact St.bind y3 (St.bind (a:=none) St.pure y2)
  exact St.mono y (by lia)
end
noncomputable def se (j:Nat):List PySem.Expr:=(tp (stC 6 j)).2
noncomputable def si (j:Nat):Str:=(tp (stC 6 j)).1
theorem sq0:stC 6 0=.Assign [.Name (si 0) ⟨205,4,205,11⟩] (.Set (bS [97,101,105,111,117] (se 0)) 0 ⟨205,14,205,39⟩) ⟨205,4,205,39⟩:=by kernel_rfl
theorem sq2:stC 6 2=.Assign [.Name (si 2) ⟨207,4,207,11⟩] (.Set (bS [48,49,50,51,52,53,54,55,56,57] (se 2)) 0 ⟨207,14,207,64⟩) ⟨207,4,207,64⟩:=by kernel_rfl
theorem vow_main (w:World) (os:OsState) (kf:Result→Sem PySem.Fin) (gd:Bool→Bool) (lv:List Value→List Value) (p:Pos) :
    segRunT treeTable pw w 11 an6 2 10 (stT (LSA w.params) 230 485 os) ⟨(inMainModule cenv).wrap (fun a=>.pure (.done (iA a))) deadEnd gd lv,bB,p,[cfr kf,topFrame q0]⟩=some (iA true,stT (LSA w.params) 230 485 os,bB,p):=by kernel_rfl
theorem dig_main (w:World) (os:OsState) (kf:Result→Sem PySem.Fin) (gd:Bool→Bool) (lv:List Value→List Value) (p:Pos) :
    segRunT treeTable pw w 11 an6 2 10 (stT (LB1 w.params) 231 498 os) ⟨(inMainModule cenv).wrap (fun a=>.pure (.done (iA a))) deadEnd gd lv,bB,p,[cfr kf,topFrame q0]⟩=some (iA true,stT (LB1 w.params) 231 498 os,bB,p):=by kernel_rfl
theorem vow_store (w:World) (os:OsState) (kf:Result→Sem PySem.Fin) (gd:Bool→Bool) (lv:List Value→List Value) (p:Pos) :
    segRunT treeTable pw w 11 an6 2 16 (stT (LSA w.params++[sob (setI w.params 485 [97,101,105,111,117])]) 231 495 os) ⟨(assignStores cenv (.ref 230) none ((assignEach [.Name (si 0) ⟨205,4,205,11⟩] cenv).map (·.2))).wrap (fun a=>.pure (.done (_root_.id a))) deadEnd gd lv,bB,p,[cfr kf,topFrame q0]⟩=some (.next,stT (LB0 w.params) 231 496 os,bB,⟨205,4,205,11⟩):=by kernel_rfl
theorem dig_store (w:World) (os:OsState) (kf:Result→Sem PySem.Fin) (gd:Bool→Bool) (lv:List Value→List Value) (p:Pos) :
    segRunT treeTable pw w 11 an6 2 16 (stT (LB1 w.params++[sob (setI w.params 498 [48,49,50,51,52,53,54,55,56,57])]) 232 518 os) ⟨(assignStores cenv (.ref 231) none ((assignEach [.Name (si 2) ⟨207,4,207,11⟩] cenv).map (·.2))).wrap (fun a=>.pure (.done (_root_.id a))) deadEnd gd lv,bB,p,[cfr kf,topFrame q0]⟩=some (.next,stT (LB2 w.params) 232 519 os,bB,⟨207,4,207,11⟩):=by kernel_rfl
theorem vow_steps (w:World) (os:OsState) (kf:Result→Sem PySem.Fin) (p:Pos):St w kf 1400 (exec (stC 6 0) cenv) (stS (LSA w.params) 485 os) p .next (stS (LB0 w.params) 496 os) ⟨205,4,205,11⟩ :=
  set_steps (n:=230) (L:=LSA) (L':=LB0) (t:=485) (cs:=[97,101,105,111,117]) (by kernel_rfl) rfl rfl sq0 (by kernel_rfl) (by kernel_rfl) (by kernel_rfl) (by decide) rfl (by kernel_rfl) (vow_main w os kf) (vow_store w os kf)
theorem dig_steps (w:World) (os:OsState) (kf:Result→Sem PySem.Fin) (p:Pos):St w kf 1400 (exec (stC 6 2) cenv) (stS (LB1 w.params) 498 os) p .next (stS (LB2 w.params) 519 os) ⟨207,4,207,11⟩ :=
  set_steps (n:=231) (L:=LB1) (L':=LB2) (t:=498) (cs:=[48,49,50,51,52,53,54,55,56,57]) (by kernel_rfl) rfl rfl sq2 (by kernel_rfl) (by kernel_rfl) (by kernel_rfl) (by decide) rfl (by kernel_rfl) (dig_main w os kf) (dig_store w os kf)
theorem cbody_eq:cbody=stC 6 0::stC 6 1::stC 6 2::((cbody.drop 3).take 11++[stC 6 14,stC 6 15,stC 6 16,stC 6 17,stC 6 18,stC 6 19,stC 6 20,stC 6 21,stC 6 22,stC 6 23]):=by kernel_rfl
theorem blockC:blockStart cbody cenv=Sem.pure ():=by kernel_rfl
theorem blockT:blockStart tbody env1=Sem.pure ():=by kernel_rfl
section
variable {w:World} {kf:Result→Sem PySem.Fin} {os:OsState} {p p' p₁:Pos} {s s' s₁:Shared} {n k:Nat} {a:Flow}
theorem St.cons {st:Stmt} {rest:List Stmt} {f:Flow} (h:St w kf n (exec st cenv) s p .next s₁ p₁) (h':St w kf k (execs rest cenv) s₁ p₁ f s' p'):St w kf (n+k) (execs (st::rest) cenv) s p f s' p' :=
  fun gd lv=>eF (h gd lv) (h' gd lv)
theorem St.nil:St w kf 0 (execs [] cenv) s p .next s p:=fun _ _=>nR
end
theorem body_steps (w:World) (os:OsState) (kf:Result→Sem PySem.Fin) :
    Steps pw w 11 an6 (1400+(30+(1400+(400+50000)))) (execs cbody cenv) id id [cfr kf,topFrame q0] (stS (LSA w.params) 485 os) bB p6 .next (stS (LT 10 w.params) 2327 os) ⟨615,4,615,7⟩:=by
  rw [cbody_eq]
  refine eF (vow_steps w os kf p6 id id) ?_
  refine eF (s₁:=stS (LB1 w.params) 498 os) (p₁:=⟨206,4,206,9⟩) ?_ ?_
  · have:=Steps.of_flow (B:=[cfr kf,topFrame q0]) rfl (run_aou w os kf)
    rwa [fD (by kernel_rfl) (by kernel_rfl),fD (by kernel_rfl) (by kernel_rfl)] at this
  refine eF (dig_steps w os kf _ id id) ?_
  refine fS (s₁:=stS (LT 0 w.params) 623 os) (p₁:=⟨545,4,605,19⟩) ?_ ?_
  · have:=Steps.of_flow (B:=[cfr kf,topFrame q0]) rfl (run_defs w os kf)
    rwa [fD (by kernel_rfl) (by kernel_rfl),fD (by kernel_rfl) (by kernel_rfl)] at this
  have z:St w kf (5000+(5000+(5000+(5000+(5000+(5000+(5000+(5000+(5000+(5000+0)))))))))) (execs [stC 6 14,stC 6 15,stC 6 16,stC 6 17,stC 6 18,stC 6 19,stC 6 20,stC 6 21,stC 6 22,stC 6 23] cenv) (stS (LT 0 w.params) 623 os) ⟨545,4,605,19⟩ .next (stS (LT 10 w.params) 2327 os) ⟨615,4,615,7⟩ :=
    St.cons (table0 w os kf _) (St.cons (table1 w os kf _) (St.cons (table2 w os kf _) (St.cons (table3 w os kf _) (St.cons (table4 w os kf _) (St.cons (table5 w os kf _) (St.cons (table6 w os kf _) (St.cons (table7 w os kf _) (St.cons (table8 w os kf _) (St.cons (table9 w os kf _) St.nil)))))))))
  exact z id id
theorem class_steps (w:World) (os:OsState):Steps pw w 11 an6 53500 (execs [stM 6] env1) id id [topFrame q0] (stS (LS6 w.params) 473 os) iG ⟨203,0,203,8⟩ .next (stS (LS7 w.params) 2335 os) p6:=fun K H N r q=>by
  have e:(stT (LSA w.params) 230 485 os).abs=stS (LSA w.params) 485 os:=fD (by kernel_rfl) (by kernel_rfl)
  have e2:(stT (LT 10 w.params) 670 2327 os).abs=stS (LT 10 w.params) 2327 os:=fD (by kernel_rfl) (by kernel_rfl)
  have e0:(stT (LS6 w.params) 223 473 os).abs=stS (LS6 w.params) 473 os:=fD (by kernel_rfl) (by kernel_rfl)
  have e3:(stT (LS7 w.params) 675 2335 os).abs=stS (LS7 w.params) 2335 os:=fD (by kernel_rfl) (by kernel_rfl)
  rw [← e3] at q
  have a1:=goT_top (run_end6 w os K H) q
  rw [e2] at a1
  -- the pop
  have a2:topRun treeTable pw w 11 an6 (174+N+1) (stS (LT 10 w.params) 2327 os) ⟨.pure (.done .next),bB,⟨615,4,615,7⟩,[cfr (kk6 w os K H),topFrame q0]⟩=some r:=by
    unfold topRun
    exact a1
  have a3:=body_steps w os (kk6 w os K H) doneF (leaveH cenv) _ _ a2
  have a4:topRun treeTable pw w 11 an6 ((1400+(30+(1400+(400+50000))))+(174+N+1)+1) (stS (LSA w.params) 485 os) ⟨.call bB none false lv6 (kk6 w os K H),iG,p6,[topFrame q0]⟩=some r:=by
    unfold topRun
    have e1:denote treeTable bB=(execs cbody cenv).wrap doneF (leaveH cenv) id id:=by
      unfold bB
      rw [body_wrap,blockC]; rfl
    show topRun treeTable pw w 11 an6 _ (stS (LSA w.params) 485 os) ⟨denote treeTable bB,bB,p6,[cfr (kk6 w os K H),topFrame q0]⟩=some r
    rw [e1]
    exact a3
  rw [← e] at a4
  have a5:=goT_top (run_pre6 w os K H) a4
  have:=topRun_mono (53500 - (63+53230+174+2)) _ _ _ _ a5
  rw [e0] at this
  rwa [show 63+((1400+(30+(1400+(400+50000))))+(174+N+1)+1)+(53500 - (63+53230+174+2))=53500+N by lia] at this
theorem run_pre (w:World) (os:OsState):topGo treeTable pw w 11 an6 12 ⟨boot_heap w.params,⟨[]⟩,boot_drawn,boot_toks,os⟩ (topStub pw) =
    some (stS (LS0 w.params) 187 os,⟨denote treeTable iG,iG,q0,[topFrame q0]⟩):=by kernel_rfl
theorem tbody_eq:tbody=tbody.take 6++([stM 6]++((tbody.drop 7).take 3++tbody.drop 10)):=by kernel_rfl
theorem run_all (w:World) (os:OsState):topRun treeTable pw w 11 an6 70000 ⟨boot_heap w.params,⟨[]⟩,boot_drawn,boot_toks,os⟩ (topStub pw)=some (stS (LFIN w.params) 2650 os):=by
  have b1:=run_fin w os
  have e1:(stT (LS0 w.params) 15 187 os).abs=stS (LS0 w.params) 187 os:=fD (by kernel_rfl) (by kernel_rfl)
  have e2:(stT (LS6 w.params) 223 473 os).abs=stS (LS6 w.params) 473 os:=fD (by kernel_rfl) (by kernel_rfl)
  have e3:(stT (LS7 w.params) 675 2335 os).abs=stS (LS7 w.params) 2335 os:=fD (by kernel_rfl) (by kernel_rfl)
  have e4:(stT (LS10 w.params) 701 2377 os).abs=stS (LS10 w.params) 2377 os:=fD (by kernel_rfl) (by kernel_rfl)
  have e5:(stT (LFIN w.params) 777 2650 os).abs=stS (LFIN w.params) 2650 os:=fD (by kernel_rfl) (by kernel_rfl)
  have s3:=Steps.of_flow (B:=[topFrame q0]) rfl (run_laws w os)
  rw [e4,e5] at s3
  have s2:=Steps.of_flow (B:=[topFrame q0]) rfl (run_labs w os)
  rw [e3,e4] at s2
  have s1:=Steps.of_flow (B:=[topFrame q0]) rfl (run_first w os)
  rw [e1,e2] at s1
  have s:=fS s1 (fS (class_steps w os) (fS s2 s3))
  rw [← tbody_eq] at s
  have b2:=s doneF (leaveH env1) _ _ b1
  have e0:denote treeTable iG=(execs tbody env1).wrap doneF (leaveH env1) id id:=by
    unfold iG
    rw [body_wrap,blockT]; rfl
  rw [← e0] at b2
  have b5:=go_top (run_pre w os) b2
  have:=topRun_mono (70000 - (12+(1300+(53500+(410+900))+2))) _ _ _ _ b5
  rwa [show 12+(1300+(53500+(410+900))+2)+(70000 - (12+(1300+(53500+(410+900))+2)))=70000 from rfl] at this
noncomputable def qv:Program:=view pw [0,2,4,6,7,8,10,11,12,13,14,15,16,17,18,19,20,21,22,23,24,25,26,27,28,29]
noncomputable def lo:List Str:=[Str.ofString "EsperantoStemmer",Str.ofString "_law_pronouns",Str.ofString "_law_verbs",Str.ofString "_law_adverbs",Str.ofString "_law_where",Str.ofString "_law_which",Str.ofString "_law_stays",Str.ofString "_law_numerals",Str.ofString "_law_ones",Str.ofString "_law_ends",Str.ofString "_law_pieces"]
theorem pick_in:∀ (l:List Obj) (i m:Nat) {a:Addr} {o:Obj},(pick l i m).lookup a=some o→∃ k,a=i+k∧l[k]?=some o
  | [],_,_,_,_,e=>nomatch e
  | x::l,i,m,a,o,e=>by
    have up:(pick l (i+1) (m / 2)).lookup a=some o→∃ k,a=i+k∧(x::l)[k]?=some o:=fun e=>by
      obtain ⟨k,h1,h2⟩:=pick_in l _ _ e
      exact ⟨k+1,h1.trans (Nat.add_right_comm i 1 k),h2⟩
    unfold pick at e
    cases h:m % 2 with
    | zero=>rw [h] at e; exact up e
    | succ n =>
      rw [h] at e
      have e:((i,x)::pick l (i+1) (m / 2)).lookup a=some o:=e
      rw [List.lookup_cons] at e
      cases q:a == i with
      | true=>rw [q] at e; exact ⟨0,eq_of_beq q,e⟩
      | false=>rw [q] at e; exact up e
theorem all_alive (P:Params):(LFIN P).all (fun o=>(alive o).isSome)=true:=by kernel_rfl
theorem k_in (P:Params):(KK P).In (hp (LFIN P)):=fun a o e=>by
  obtain ⟨k,h1,h2⟩:=pick_in _ _ _ e
  obtain ⟨o',h3⟩:=Option.isSome_iff_exists.mp (List.all_eq_true.mp (all_alive P) o (List.mem_of_getElem? h2))
  rw [h1,Nat.zero_add]
  exact hp_get h2 (nY h3).2
noncomputable def hk:Hook:=⟨Heap,fun s=>s.heap,fun w=>hp (LFIN w.params),InK KK,fun w s e=>by
  show (KK w.params).In s.heap
  rw [show s.heap=hp (LFIN w.params) from e]
  exact k_in _,InK.keeps⟩
noncomputable abbrev rwO:OpenRow:=PySem.Challenge.rw_ip0006_01.row
noncomputable abbrev Xt0:Shared→Bool:=fun s=>xlAt qv [] s && recOk rwO.records s
theorem open0:∀ w:World,(fencedOpening treeTable pw w 200000).map (fun s=>(s.heap,s.gens,s.drawn,s.toks))=some (boot_heap w.params,Array.mk [],boot_drawn,boot_toks) :=
  boot_open (by kernel_rfl) rfl (fun s=>by kernel_rfl)
theorem size0 (w:World):((boot_heap w.params).isNs mainGlobals && (Array.mk []:Array GenState).size == 0,(boot_heap w.params).objs.size,(boot_heap w.params).nsMap mainGlobals "__annotations__")=(true,11,an6):=by kernel_rfl
theorem look1 (w:World) (os:OsState):(staticsOk (importedModules pw.main.body) (boot_heap w.params) (hp (LFIN w.params)) && namesBound pw (hp (LFIN w.params)) && gensDone (stS (LFIN w.params) 2650 os) && laidKept (boot_heap w.params) (hp (LFIN w.params)))=true:=by kernel_rfl
theorem look3 (w:World) (os:OsState):hk.obs (stS (LFIN w.params) 2650 os)=hk.val w:=rfl
theorem look2 (w:World) (os:OsState):openSeen qv lo (importedModules pw.main.body) Xt0 true (stS (LFIN w.params) 2650 os)=openGood qv lo:=by kernel_rfl
theorem left0:LeftO rwO.prog qv lo Xt0 hk.obs hk.val 200000 :=
  LeftO.of_pieces (M:=70000) (H₀:=boot_heap) (H₁:=fun P=>hp (LFIN P)) (gs₀:=⟨[]⟩) (gs₁:=⟨[]⟩) (d₀:=boot_drawn) (d₁:={}) (k₀:=boot_toks) (k₁:=2650) (m₀:=11) (ann:=an6) open0 size0 run_all rfl
    fun w=>funext fun os=>Prod.ext (look1 w os) (Prod.ext (look2 w os) (look3 w os))
noncomputable def dLaw:DefRec:=match stM 29 with
  | .FunctionDef name args body _ _ _ scope _ _ pos=>⟨name,args,body,scope,pos⟩
  | _=>⟨⟨#[]⟩,⟨[],[],none,[],[],none,[]⟩,[],⟨.function,[],false,false,[]⟩,⟨0,0,0,0⟩⟩
noncomputable abbrev l0:OpenLaw:=PySem.Challenge.rw_ip0006_01
theorem said1:namesResolve l0.row.prog=true:=by kernel_rfl
theorem said6:readsOut l0.row.prog l0.row.prog.main.body "vars" = false:=by kernel_rfl
theorem said7:readsOut l0.row.prog l0.row.prog.main.body "dir" = false:=by kernel_rfl
theorem said8:readsOut l0.row.prog l0.row.prog.main.body "locals" = false:=by kernel_rfl
theorem said9:(["vars","dir","locals"]:List Str).filter (readsOut l0.row.prog l0.row.prog.main.body)=[]:=by
  rw [List.filter_cons,said6,List.filter_cons,said7,List.filter_cons,said8]; rfl
theorem said2:noRoadLSs { strict:=!(importedModules l0.row.prog.main.body).all cThrough.contains,foot:=none,bare:=(["vars","dir","locals"]:List Str).filter (readsOut l0.row.prog l0.row.prog.main.body) } l0.row.prog.main.body=true:=by rw [said9]; kernel_rfl
theorem said3:looksOpen l0.row.prog=true:=by unfold looksOpen; rw [said1,said2]; kernel_rfl
theorem said4:OpenRow.partSaid l0.row=true:=by unfold OpenRow.partSaid; rw [said3]; kernel_rfl
theorem saidA:noRoadLSs { strict:=true,foot:=some l0.bound',writes:=l0.writes,may:=l0.may } l0.footing=true:=by kernel_rfl
theorem saidB:defStands l0.about l0.above=true:=by kernel_rfl
theorem saidC:namesMeet l0.prog l0.above (fun _ n=>!l0.own.contains n)=true:=by kernel_rfl
theorem said5:OpenLaw.wellSaid l0=true:=by unfold OpenLaw.wellSaid OpenRow.wellSaid; rw [said4,saidA,saidB,saidC]; kernel_rfl
theorem hd (walk:WalkO qv lo (XL qv []) hk.says PySem.Challenge.rw_ip0006_01.row.toRowW dLaw [] fun f vs=>call f vs):PySem.Challenge.rw_ip0006_01.Holds:=by
  w_on
  refine holds_law said5 fun said=>?_
  refine holds_open (d:=dLaw) (kwd:=[]) (q:=qv) (loose:=lo) (Xt:=Xt0) (XP:=XL qv []) (Yf:=hk.obs) (Ya:=hk.val) (YP:=hk.says) (N:=200000) left0 hk.of hk.keeps (fun s e=>xl_of s (Bool.and_eq_true_iff.mp e).1) XL.keeps (by kernel_rfl) (by kernel_rfl) (by kernel_rfl) (fun s e=>recFacts_of (Bool.and_eq_true_iff.mp e).2) rfl (by assumption) (by kernel_rfl) ⟨rfl,rfl,rfl,rfl,rfl,by decide +kernel⟩ ?hw walk
  case hw=>w_witness2
end Mine
namespace Esp
open PySem PySem.W PySem.Calls PyProof.Rows Mine PySem.SeqAt
noncomputable abbrev T:=List Nat
noncomputable def S (x:T):Str:=⟨x.toArray⟩
theorem cD (x:T):(S x).length=x.length:=by simp [S,Str.length]
inductive All2 {α β:Type} (R:α→β→Prop):List α→List β→Prop
  | nil:All2 R [] []
  | cons {a b l m}:R a b→All2 R l m→All2 R (a::l) (b::m)
theorem All2.length {α β:Type} {R:α→β→Prop} {l:List α} {m:List β} (h:All2 R l m):l.length=m.length:=by
  induction h with
  | nil=>rfl
  | cons _ _ ih=>simp [ih]
theorem All2.imp {α β:Type} {R R':α→β→Prop} (f:∀ a b,R a b→R' a b) {l:List α} {m:List β} (h:All2 R l m):All2 R' l m:=by
  induction h with
  | nil=>exact .nil
  | cons h _ ih=>exact .cons (f _ _ h) ih
theorem All2.app {α β:Type} {R:α→β→Prop} {l l':List α} {m m':List β} (h:All2 R l m) (h':All2 R l' m'):All2 R (l++l') (m++m'):=by
  induction h with
  | nil=>exact h'
  | cons h _ ih=>exact .cons h ih
theorem All2.get {α β:Type} {R:α→β→Prop} {l:List α} {m:List β} (h:All2 R l m):∀ {i:Nat} {a:α},l[i]?=some a→∃ b,m[i]?=some b∧R a b:=by
  induction h with
  | nil=>intro i a e; cases i <;> cases e
  | cons h _ ih =>
    intro i a e
    cases i with
    | zero=>cases e; exact ⟨_,rfl,h⟩
    | succ i=>exact ih e
inductive SV where
  | none | bool (b:Bool) | int (i:Int) | str (x:T)
  | self (x:Addr) | cls | tab (t:List (T×Int×Int)) | amg (e:T×Int×Int) | grp (l:List Nat)
  | tl (l:List T) | il (l:List Int) | pr (p:T×T) | pl (l:List (T×T)) | dct (l:List (T×T)) | lst (a:Addr)
noncomputable def lim:Nat:=2 ^ 16
noncomputable def AmgIs (P:Params) (a:Addr) (e:T×Int×Int):Prop :=
  ∃ dx es n t1 t2 t3,(KK P).lookup a=some ⟨.ref 218,some dx,.plain,#[]⟩∧(KK P).lookup dx=some (dictOf es n) ∧
    getL "s" es=some (some (.str (S e.1) t1))∧getL "substring_i" es=some (some (.int e.2.1 t2))∧getL "result" es=some (some (.int e.2.2 t3))
noncomputable def mE (P:Params) (a:Addr) (t:List (T×Int×Int)):Prop :=
  ∃ vs n sl,(KK P).lookup a=some ⟨.type "list",none,.seq vs n,sl⟩∧All2 (fun e v=>∃ b,v=.ref b∧AmgIs P b e) t vs.toList
noncomputable def GrpIs (P:Params) (a:Addr) (l:List Nat):Prop:=∃ (S:SI) (tk:Tok),(KK P).lookup a=some ⟨.type "set",none,S.data,#[]⟩∧S.Ok P (l.zipIdx tk)∧l.length < 4096
noncomputable def inH (P:Params) (imm:List (Addr×Obj)) (a:Addr) (o:Obj):Prop:=(a,o)∈imm∨(KK P).lookup a=some o
theorem inH.mono {P:Params} {imm imm':List (Addr×Obj)} (h:∀ p∈imm,p∈imm') {a:Addr} {o:Obj} (q:inH P imm a o):inH P imm' a o:=q.imp (h _) id
noncomputable def StrV (x:T) (V:Value):Prop:=∃ t,V=.str (S x) t∧x.length≤lim
noncomputable def IntV (i:Int) (V:Value):Prop:=∃ t,V=.int i t
noncomputable def SeqIs (P:Params) (imm:List (Addr×Obj)) (ty:String) (V:Value) (vs:Array Value):Prop:=∃ a o n,V=.ref a∧inH P imm a o∧o.cls=.type ty∧o.data=.seq vs n
theorem SeqIs.mono {P:Params} {imm imm':List (Addr×Obj)} (h:∀ p∈imm,p∈imm') {ty:String} {V:Value} {vs:Array Value} (q:SeqIs P imm ty V vs):SeqIs P imm' ty V vs:=by
  obtain ⟨a,o,n,h1,h2,h3⟩:=q
  exact ⟨a,o,n,h1,h2.mono h,h3⟩
noncomputable def PrV (P:Params) (imm:List (Addr×Obj)) (p:T×T) (V:Value):Prop:=∃ v w,SeqIs P imm "tuple" V #[v,w]∧StrV p.1 v∧StrV p.2 w
theorem PrV.mono {P:Params} {imm imm':List (Addr×Obj)} (h:∀ p∈imm,p∈imm') {p:T×T} {V:Value} (q:PrV P imm p V):PrV P imm' p V:=by
  obtain ⟨v,w,h1,h2⟩:=q
  exact ⟨v,w,h1.mono h,h2⟩
noncomputable def DctV (P:Params) (imm:List (Addr×Obj)) (l:List (T×T)) (V:Value):Prop:=∃ a o,V=.ref a∧(a == sysModules)=false∧inH P imm a o ∧
  ∀ w:World,w.params=P→∃ kvs,o.IsDictOf (strKind pw w) kvs∧All2 (fun (p:T×T) (kv:Str×Value)=>kv.1=S p.1∧StrV p.2 kv.2) l kvs
noncomputable def VR (P:Params) (imm:List (Addr×Obj)):SV→Value→Prop
  | .none,V=>V=.none
  | .bool b,V=>V=.bool b
  | .int i,V=>∃ t,V=.int i t
  | .str x,V=>∃ t,V=.str (S x) t∧x.length≤lim
  | .self x,V=>V=.ref x
  | .cls,V=>V=.ref 672
  | .tab t,V=>∃ a,V=.ref a∧mE P a t
  | .amg e,V=>∃ a,V=.ref a∧AmgIs P a e
  | .grp l,V=>∃ a,V=.ref a∧GrpIs P a l
  | .tl l,V=>∃ vs,SeqIs P imm "list" V vs∧All2 StrV l vs.toList
  | .il l,V=>∃ vs,SeqIs P imm "list" V vs∧All2 IntV l vs.toList
  | .pr p,V=>PrV P imm p V
  | .pl l,V=>∃ vs,SeqIs P imm "list" V vs∧All2 (PrV P imm) l vs.toList
  | .dct l,V=>DctV P imm l V
  | .lst a,V=>V=.ref a
theorem VR.mono {P:Params} {imm imm':List (Addr×Obj)} (h:∀ p∈imm,p∈imm'):∀ {v:SV} {V:Value},VR P imm v V→VR P imm' v V:=by
  intro v V q
  cases v with
  | tl l=>obtain ⟨vs,h1,h2⟩:=q; exact ⟨vs,h1.mono h,h2⟩
  | il l=>obtain ⟨vs,h1,h2⟩:=q; exact ⟨vs,h1.mono h,h2⟩
  | pr p=>exact PrV.mono h q
  | pl l=>obtain ⟨vs,h1,h2⟩:=q; exact ⟨vs,h1.mono h,h2.imp fun _ _=>PrV.mono h⟩
  | dct l=>obtain ⟨a,o,h1,h2,h3,h4⟩:=q; exact ⟨a,o,h1,h2,h3.mono h,h4⟩
  | _=>exact q
theorem VR.int_ {P:Params} {imm:List (Addr×Obj)} {i:Int} (t:Tok):VR P imm (.int i) (.int i t):=⟨t,rfl⟩
theorem VR.str_ {P:Params} {imm:List (Addr×Obj)} {x:T} (t:Tok) (h:x.length≤lim):VR P imm (.str x) (.str (S x) t):=⟨t,rfl,h⟩
theorem VR.bool_ {P:Params} {imm:List (Addr×Obj)} {b:Bool}:VR P imm (.bool b) (.bool b):=rfl
theorem VR.handed {P:Params} {imm:List (Addr×Obj)}:∀ {v:SV} {V:Value},VR P imm v V→handedIn V=true:=by
  intro v V q
  cases v with
  | none=>cases q; rfl
  | bool b=>cases q; rfl
  | int i=>obtain ⟨t,rfl⟩:=q; rfl
  | str x=>obtain ⟨t,rfl,_⟩:=q; rfl
  | self x=>cases q; rfl
  | cls=>cases q; rfl
  | tab t=>obtain ⟨a,rfl,_⟩:=q; rfl
  | amg e=>obtain ⟨a,rfl,_⟩:=q; rfl
  | grp l=>obtain ⟨a,rfl,_⟩:=q; rfl
  | tl l=>obtain ⟨vs,⟨a,o,n,rfl,_⟩,_⟩:=q; rfl
  | il l=>obtain ⟨vs,⟨a,o,n,rfl,_⟩,_⟩:=q; rfl
  | pr p=>obtain ⟨v,w,⟨a,o,n,rfl,_⟩,_⟩:=q; rfl
  | pl l=>obtain ⟨vs,⟨a,o,n,rfl,_⟩,_⟩:=q; rfl
  | dct l=>obtain ⟨a,o,rfl,_⟩:=q; rfl
  | lst a=>cases q; rfl
noncomputable abbrev Loc:=List (Str×SV)
noncomputable def putF (x:Str) (v:SV):Loc→Loc
  | []=>[(x,v)]
  | p::r=>if p.1 == x then (p.1,v)::r else p::putF x v r
theorem cO (y:Str) (p:Str×SV) (r:Loc):List.lookup y (p::r)=if y=p.1 then some p.2 else r.lookup y:=by
  obtain ⟨a,b⟩:=p
  rw [List.lookup_cons]
  by_cases h:y=a
  · subst h; rw [if_pos rfl]; simp
  · rw [if_neg h,show (y == a)=false from by simp [h]]
theorem mU (x:Str) (v:SV) (y:Str):∀ l:Loc,(putF x v l).lookup y=if y=x then some v else l.lookup y
  | []=>by
    unfold putF
    rw [cO]
  | p::r=>by
    unfold putF
    by_cases hp:p.1=x
    · rw [if_pos (by simp [hp]),cO,cO]
      subst hp
      by_cases h:y=p.1
      · rw [if_pos h,if_pos h]
      · rw [if_neg h,if_neg h,if_neg h]
    · rw [if_neg (by simp [hp]),cO,cO,mU x v y r]
      by_cases hy:y=p.1
      · subst hy
        rw [if_pos rfl,if_neg hp,if_pos rfl]
      · rw [if_neg hy,if_neg hy]
noncomputable def LocOK (P:Params) (imm:List (Addr×Obj)) (l:Loc) (m:Str→Option Value):Prop:=∀ x v,l.lookup x=some v→∃ V,m x=some V∧VR P imm v V
theorem LocOK.put {P:Params} {imm:List (Addr×Obj)} {l:Loc} {m:Str→Option Value} (h:LocOK P imm l m) {x:Str} {v:SV} {V:Value} (q:VR P imm v V) :
    LocOK P imm (putF x v l) (fun y=>if y=x then some V else m y):=fun y u e=>by
  rw [mU] at e
  by_cases hy:y=x
  · rw [if_pos hy] at e
    cases e
    exact ⟨V,if_pos hy,q⟩
  · rw [if_neg hy] at e
    obtain ⟨W,h1,h2⟩:=h y u e
    exact ⟨W,(if_neg hy).trans h1,h2⟩
noncomputable def FldOK (P:Params) (es:List DictEntry) (fl:Loc):Prop:=All2 (fun (e:DictEntry) (p:Str×SV)=>(∃ t,e.key=.str p.1 t)∧VR P [] p.2 e.val) es fl
theorem mI {n m:Str} {t:Tok}:(Value.str n t).isStr m=(n == m):=rfl
theorem FldOK.any {P:Params} {es:List DictEntry} {fl:Loc} (h:FldOK P es fl):es.any (·.refKey)=false:=by
  induction h with
  | nil=>rfl
  | cons h _ ih =>
    obtain ⟨⟨t,e⟩,_⟩:=h
    rw [List.any_cons,ih]
    unfold DictEntry.refKey
    rw [e]
    rfl
theorem FldOK.find {P:Params} {es:List DictEntry} {fl:Loc} (h:FldOK P es fl) (n:Str):(∀ v,fl.lookup n=some v→∃ e,es.find? (·.key.isStr n)=some e∧VR P [] v e.val)∧(fl.lookup n=none→es.find? (·.key.isStr n)=none):=by
  induction h with
  | nil=>exact ⟨fun v e=>(nomatch e),fun _=>rfl⟩
  | @cons e p l m h _ ih =>
    obtain ⟨⟨t,e1⟩,hv⟩:=h
    by_cases hn:p.1=n
    · have hs:e.key.isStr n=true:=by rw [e1,mI]; simp [hn]
      refine ⟨fun v q=>⟨e,by rw [List.find?_cons,hs],?_⟩,fun q=>?_⟩
      · obtain ⟨pn,pv⟩:=p
        simp at hn
        subst hn
        simp at q
        subst q
        exact hv
      · obtain ⟨pn,pv⟩:=p
        simp at hn
        subst hn
        simp at q
    · have hs:e.key.isStr n=false:=by rw [e1,mI]; simp [hn]
      have hl:(p::m).lookup n=m.lookup n:=by
        obtain ⟨pn,pv⟩:=p
        rw [List.lookup_cons]
        have:(n == pn)=false:=by simp only [beq_eq_false_iff_ne,ne_eq]; exact fun q=>hn q.symm
        rw [this]
      rw [hl,List.find?_cons,hs]
      exact ih
theorem FldOK.get {P:Params} {es:List DictEntry} {fl:Loc} (h:FldOK P es fl) {n:Str} {v:SV} (e:fl.lookup n=some v):∃ V,getL n es=some (some V)∧VR P [] v V:=by
  obtain ⟨en,h1,h2⟩:=(h.find n).1 v e
  exact ⟨en.val,by unfold getL; rw [h1],h2⟩
theorem FldOK.getNone {P:Params} {es:List DictEntry} {fl:Loc} (h:FldOK P es fl) {n:Str} (e:fl.lookup n=none):getL n es=some none:=by
  unfold getL
  rw [(h.find n).2 e,h.any]
  rfl
theorem FldOK.isSome {P:Params} {es:List DictEntry} {fl:Loc} (h:FldOK P es fl) (n:Str):(getL n es).isSome=true:=by
  cases q:fl.lookup n with
  | none=>rw [h.getNone q]; rfl
  | some v=>obtain ⟨V,e,_⟩:=h.get q; rw [e]; rfl
theorem FldOK.put {P:Params} {es:List DictEntry} {fl:Loc} (h:FldOK P es fl) (n:Str) (hs:Int) (t:Tok) {v:SV} {V:Value} (q:VR P [] v V):FldOK P (putL n hs (.str n t) V es) (putF n v fl):=by
  induction h with
  | nil=>exact .cons ⟨⟨t,rfl⟩,q⟩ .nil
  | @cons e p l m h hr ih =>
    obtain ⟨⟨t',e1⟩,hv⟩:=h
    unfold putL putF
    by_cases hn:p.1=n
    · have hs:e.key.isStr n=true:=by rw [e1,mI]; simp [hn]
      rw [if_pos hs,if_pos (by simp [hn])]
      exact .cons ⟨⟨t',e1⟩,q⟩ hr
    · have hs:e.key.isStr n=false:=by rw [e1,mI]; simp [hn]
      rw [if_neg (by simp [hs]),if_neg (by simp [hn])]
      exact .cons ⟨⟨t',e1⟩,hv⟩ ih
theorem mT (n:Str) (hs:Int) (k V:Value):∀ es:List DictEntry,(putL n hs k V es).length≤es.length+1
  | []=>Nat.le_refl _
  | e::r=>by
    unfold putL
    split
    · simp
    · simp only [List.length_cons]
      exact Nat.succ_le_succ (mT n hs k V r)
inductive Mu where
  | none | some (p:Addr×Addr×Loc) | lst (a:Addr) (l:List T)
structure Sx where
  loc:Loc
  f:Mu
noncomputable def MutOK (P:Params) (st:Sx) (mt:List (Addr×Obj)):Prop:=match st.f with
  | .none=>mt=[]
  | .some (x,dx,fl)=>∃ es n,mt=[(x,instObj 672 dx),(dx,dictOf es n)]∧FldOK P es fl∧es.length≤100
  | .lst a l=>∃ o vs n,mt=[(a,o)]∧o.cls=.type "list" ∧ o.dict=none∧o.data=.seq vs n∧All2 StrV l vs.toList
structure Cx where
  w:World
  sh:Shared
  A₀:Around
  base:Heap
  outer:List Env
  qual:Str
  scope:Scope
  L:Addr
  fa:Addr
  cd:Value
  g₀:Heap
  mg:Str→Option Value
  mb:Str→Option Value
  mean:ExcName→Option Value
  rest:List (Addr×Obj)
namespace Cx
noncomputable def M (c:Cx):Model:=model pw c.w
noncomputable def env (c:Cx):Env:=envOf c.qual c.scope c.L c.fa c.cd
noncomputable def A (c:Cx):Around:=c.A₀.deeper c.env
noncomputable def K (c:Cx):Frag:=KK c.w.params
noncomputable abbrev P (c:Cx):Params:=c.w.params
noncomputable def fs (c:Cx):List Addr:=c.outer.filterMap (·.frame)
end Cx
structure CxOK (c:Cx):Prop where
  XB:c.K.In c.base
  TB:Top qv (looseW qv lo) c.mean c.mg c.mb c.base
  kind:c.scope.kind=.function
  hd:c.A₀.handled=none
structure Inv (c:Cx) (imm:List (Addr×Obj)) (st:Sx) (s:Shared):Prop where
  sh:s.gens=c.sh.gens∧s.drawn=c.sh.drawn∧s.os=c.sh.os
  ex:∃ g m mt,KtsTurn c.fs c.g₀ g∧Fr g c.L s.heap m∧News g c.L s.heap (mt++(imm++c.rest))∧Below c.A₀ c.base c.outer g∧KtsDicts c.fs g ∧
    MutOK c.P st mt∧((mt++(imm++c.rest)).map (·.1)).Nodup∧LocOK c.P imm st.loc m
noncomputable def Ext (imm imm':List (Addr×Obj)):Prop:=∃ new,imm'=new++imm
theorem Ext.refl {imm:List (Addr×Obj)}:Ext imm imm:=⟨[],rfl⟩
theorem Ext.trans {a b c:List (Addr×Obj)} (h:Ext a b) (h':Ext b c):Ext a c:=by
  obtain ⟨n,rfl⟩:=h
  obtain ⟨n',rfl⟩:=h'
  exact ⟨n'++n,by rw [List.append_assoc]⟩
theorem Ext.mem {a b:List (Addr×Obj)} (h:Ext a b):∀ p∈a,p∈b:=by
  obtain ⟨n,rfl⟩:=h
  exact fun p hp=>List.mem_append_right _ hp
noncomputable def QV (c:Cx) (imm:List (Addr×Obj)) (st:Sx) (v:SV):Value→Shared→Prop:=fun V s'=>∃ imm',Ext imm imm'∧Inv c imm' st s'∧VR c.P imm' v V
noncomputable def QB (c:Cx) (imm:List (Addr×Obj)) (st:Sx) (b:Bool):Bool→Shared→Prop:=fun b' s'=>b'=b∧∃ imm',Ext imm imm'∧Inv c imm' st s'
noncomputable abbrev NoE:Value→Shared→Prop:=fun _ _=>False
section
variable {c:Cx} {imm:List (Addr×Obj)} {st:Sx} {s:Shared}
theorem Inv.tok (I:Inv c imm st s) (n:Nat):Inv c imm st { s with toks:=n }:=⟨I.sh,I.ex⟩
theorem eJ (I:Inv c imm st s) {v:SV} {V:Value} (h:VR c.P imm v V) (n:Nat):QV c imm st v V { s with toks:=n }:=⟨imm,.refl,I.tok n,h⟩
theorem jQ (I:Inv c imm st s) {v:SV} {V:Value} (h:VR c.P imm v V):QV c imm st v V s:=⟨imm,.refl,I,h⟩
theorem e_local (O:CxOK c) (I:Inv c imm st s) {x:Str} {p:Pos} {v:SV} (hv:st.loc.lookup x=some v) (hl:c.scope.names.lookup x=some .local) (hd:(x == ("__debug__" : Str))=false) :
    wpAny c.M c.A (eval (.Name x p) c.env) (QV c imm st v) NoE s:=by
  obtain ⟨g,m,mt,_,F,_,_,_,_,_,LO⟩:=I.ex
  obtain ⟨V,h1,h2⟩:=LO x v hv
  exact ld F h1 (jQ I h2) O.kind hl hd
theorem e_int (I:Inv c imm st s) {i:Int} {k:Nat} {p:Pos}:wpAny c.M c.A (eval (.Constant (.int i) k p) c.env) (QV c imm st (.int i)) NoE s :=
  wpAny_Constant_int (eJ I (.int_ _) _)
theorem e_str (I:Inv c imm st s) {x:T} {k:Nat} {p:Pos} (hx:x.length≤lim):wpAny c.M c.A (eval (.Constant (.str (S x)) k p) c.env) (QV c imm st (.str x)) NoE s :=
  wpAny_Constant_str (eJ I (.str_ _ hx) _)
theorem e_bool (I:Inv c imm st s) {b:Bool} {k:Nat} {p:Pos}:wpAny c.M c.A (eval (.Constant (.bool b) k p) c.env) (QV c imm st (.bool b)) NoE s :=
  wpAny_Constant_bool (jQ I rfl)
theorem e_none (I:Inv c imm st s) {k:Nat} {p:Pos}:wpAny c.M c.A (eval (.Constant .none k p) c.env) (QV c imm st .none) NoE s :=
  wpAny_Constant_none (jQ I rfl)
theorem Inv.X {g:Heap} (O:CxOK c) (B:Below c.A₀ c.base c.outer g):c.K.In g:=O.XB.keeps B.stays
theorem Inv.TR {g:Heap} (O:CxOK c) (B:Below c.A₀ c.base c.outer g):TopRead qv (looseW qv lo) c.mg c.mb g:=topRead_of (O.TB.keeps B.stays)
theorem e_glob (O:CxOK c) (I:Inv c imm st s) {x:Str} {p:Pos} {v:SV} {V:Value} (e:nsIn c.K mainGlobals x=some (some V)) (hv:VR c.P imm v V) (hl:c.scope.names.lookup x=some .globalImplicit) (hd:(x == ("__debug__" : Str))=false) :
    wpAny c.M c.A (eval (.Name x p) c.env) (QV c imm st v) NoE s:=by
  obtain ⟨g,m,mt,_,F,_,B,_,_,_,LO⟩:=I.ex
  exact name_K F (Inv.X O B) (Inv.TR O B) e (jQ I hv) O.kind hl hd
theorem nJ {x dx:Addr} {fl:Loc} (hf:st.f=.some (x,dx,fl)) {g:Heap} {mt:List (Addr×Obj)} {h:Heap} (N:News g c.L h (mt++(imm++c.rest))) (M:MutOK c.P st mt) :
    ∃ es n,mt=[(x,instObj 672 dx),(dx,dictOf es n)]∧FldOK c.P es fl∧es.length≤100∧PySem.W.InstAt h x (instObj 672 dx) 672 (some (dictOf es n)):=by
  unfold MutOK at M
  rw [hf] at M
  obtain ⟨es,n,rfl,h1,h2⟩:=M
  refine ⟨es,n,rfl,h1,h2,?_⟩
  exact PySem.W.InstAt.of_news N (by simp) (by simp)
theorem k_hasDict (P:Params):hasDictIn (KK P) 672=true:=by kernel_rfl
noncomputable def fieldNames:List Str:=["current","cursor","limit","limit_backward","bra","ket"]
theorem k_field (P:Params):∀ n∈fieldNames,plainGet (KK P) 672 n=true∧findIn (KK P) (.ref 672) n=some none:=by
  have h:(fieldNames.all fun n=>plainGet (KK P) 672 n && findIn (KK P) (.ref 672) n == some none)=true:=by kernel_rfl
  intro n hn
  have:=List.all_eq_true.mp h n hn
  simp only [Bool.and_eq_true,beq_iff_eq] at this
  exact this
theorem a_field (O:CxOK c) (I:Inv c imm st s) {n:Str} {x dx:Addr} {fl:Loc} {v:SV} (hf:st.f=.some (x,dx,fl)) (hn:n∈fieldNames) (hv:fl.lookup n=some v) {expr:Bool} :
    wpAny c.M c.A (getAttr (.ref x) n expr) (QV c imm st v) NoE s:=by
  obtain ⟨g,m,mt,_,F,N,B,_,MO,_,LO⟩:=I.ex
  obtain ⟨es,k,rfl,FO,_,IA⟩:=nJ hf N MO
  obtain ⟨V,h1,h2⟩:=FO.get hv
  obtain ⟨q1,q2⟩:=k_field c.w.params n hn
  exact get_own F (Inv.X O B) IA q1 (k_hasDict _) q2 rfl h1 h2.handed (eJ I (h2.mono (by simp)) _)
end
noncomputable def Cx.all (c:Cx):List Env:=c.env::c.outer
noncomputable def hid (c:Cx) (G:Heap):Heap:=hideAll G (c.all.filterMap (·.frame))
section
variable {c:Cx} {imm:List (Addr×Obj)} {st:Sx} {s:Shared} {G h':Heap}
theorem Inv.frames (O:CxOK c) (I:Inv c imm st { s with heap:=G }):G.FunFrames c.base c.all:=by
  obtain ⟨g,m,mt,_,F,N,B,_,MO,_,LO⟩:=I.ex
  exact (B.push (name:=c.qual) (scope:=c.scope) (a:=c.fa) (cd:=c.cd) F O.kind).frames
theorem Inv.stays (I:Inv c imm st { s with heap:=G }):c.base.StaysIn G:=by
  obtain ⟨g,m,mt,_,F,N,B,_,MO,_,LO⟩:=I.ex
  exact fun b o e=>F.keep b o (B.stays b o e)
theorem Inv.stack (I:Inv c imm st { s with heap:=G }):c.A.frames=some c.all:=by
  obtain ⟨g,m,mt,_,F,N,B,_,MO,_,LO⟩:=I.ex
  exact Around.frames_deeper B.stack
theorem Inv.hid_frames (O:CxOK c) (I:Inv c imm st { s with heap:=G }):G.FunFrames (hid c G) c.all :=
  funFrames_hide (I.frames O) fun env he b hb=>List.mem_filterMap.mpr ⟨env,he,hb⟩
theorem Inv.after (I:Inv c imm st { s with heap:=G }) (hB:(hid c G).StaysIn h') (hsm:G.UpToSlots h'):Inv c imm st { s with heap:=h' }:=by
  obtain ⟨g,m,mt,T0,F,N,B,D,MO,ND,LO⟩:=I.ex
  obtain ⟨g',T,F',B'⟩:=kts_ground (A₀:=c.A₀) (base:=c.base) (g:=g) (G:=G) (B:=hid c G) (h₅:=h') (outer:=c.outer) (L:=c.L) (a:=c.fa) (m:=m) (name:=c.qual) (scope:=c.scope) (cd:=c.cd) B F (fun b o e nm=>hideAll_get _ e nm) hB hsm
  refine ⟨I.sh,g',m,mt,T0.trans T,F',fun q hq=>⟨hB _ _ (hideAll_get _ (N q hq).1 fun hm=>?_),(N q hq).2.1,T.none_ _ (N q hq).2.2⟩,B',D.turn T,MO,ND,LO⟩
  rcases kts_mem (name:=c.qual) (scope:=c.scope) (L:=c.L) (a:=c.fa) (cd:=c.cd) hm with z | z
  · exact (N q hq).2.1 z
  · obtain ⟨_,o,ho,_⟩:=B.frames.mem z
    rw [(N q hq).2.2] at ho; cases ho
inductive Fly (c:Cx) (imm:List (Addr×Obj)) (st:Sx) (C:Addr):Value→Shared→Prop
  | raw {ea:Addr} {s:Shared} (G:Heap):Inv c imm st { s with heap:=G }→Heap.MadeExcOf G s.heap ea (.ref C) []→Fly c imm st C (.ref ea) s
  | held {ea:Addr} {s:Shared} (G:Heap) (a0:Value):Inv c imm st { s with heap:=G }→Heap.HeldW (hid c G) c.all ea (.ref C) a0 c.L s.heap→G.UpToSlots s.heap→Fly c imm st C (.ref ea) s
theorem note_fly (O:CxOK c) {C:Addr} {e:Value} {A:Around} (hA:A.frames=some c.all) {E:Value→Shared→Prop} {Q:Unit→Shared→Prop} (Fl:Fly c imm st C e s)
    (h:∀ ea h' G a0,e=.ref ea→Inv c imm st { s with heap:=G }→Heap.HeldW (hid c G) c.all ea (.ref C) a0 c.L h'→G.UpToSlots h'→Q () { s with heap:=h' }) :
    wpAny c.M A (noteFrame e c.env) Q E s:=by
  cases Fl with
  | @held ea s G a0 I H U=>exact wpAny_noteFrame_againW rfl H.2.2.2 (h ea s.heap G a0 rfl I H U)
  | @raw ea s G I M =>
    obtain ⟨t,he,htn,ht⟩:=M.there
    have hen:(hid c G).get? ea=none:=by
      cases q:(hid c G).get? ea with
      | none=>rfl
      | some o=>have:=of_hideAll _ q; rw [M.new] at this; cases this
    unfold noteFrame
    simp only [show c.env.frame=some c.L from rfl]
    refine wpAny_bind (wpAny_field he rfl (i:=1) (x:=.none) rfl ?_)
    rw [if_neg (by decide)]
    refine wpAny_entryW (base:=hid c G) (a0:=.ref t) hA ((I.hid_frames O).of_keeps fun b o hb _=>⟨o,M.keeps b o hb,rfl⟩) rfl he (fun b o hb=>M.keeps b o (of_hideAll _ hb)) hen rfl (by show 1 < 6; decide) rfl fun h' hN=>?_
    obtain ⟨k1,k2,k3,k4⟩:=hN
    exact h ea h' G _ rfl I ⟨k1,hen,k2,k3⟩ ((Heap.UpToSlots.of_keeps M.keeps).trans k4)
theorem set_flight {M:Model} {A:Around} {E:Value→Shared→Prop} {B:Heap} {l:List Env} {e:Addr} {cls a0 fl:Value} {f:Option Addr} {Q:Unit→Shared→Prop}
    (hkb:B.StaysIn s.heap) (hl:s.heap.FunFrames B l) (ht:s.heap.TracedAtW B e cls a0 fl)
    (h:∀ h',B.StaysIn h'→h'.FunFrames B l→h'.TracedAtW B e cls a0 (f.elim .none fun f=>rawInt f)→s.heap.UpToSlots h'→Q () { s with heap:=h' }) :
    wpAny M A (setFlight (.ref e) f) Q E s:=by
  obtain ⟨oe,vs,T,oT,ts,he,hcls,hd,h1,hnT,hTe,hT,hdT,h3⟩:=ht
  have hsz3:3 < ts.size:=(Array.getElem?_eq_some_iff.mp h3).1
  have other:∀ b,b≠T→(s.heap.update T (Obj.mapFields (·.setIfInBounds 3 (f.elim Value.none fun f=>rawInt f)))).get? b=s.heap.get? b :=
    fun b hb=>Heap.get?_update_other _ _ (Ne.symm hb)
  have noRecord:∀ b o,s.heap.get? b=some o→(∀ vs,o.data≠.fields vs)→b≠T:=fun b o hb hnf q=>by
    rw [q,hT] at hb; injection hb with hb; subst hb; exact hnf ts hdT
  unfold setFlight
  refine wpAny_bind (wpAny_field he hd h1 ?_)
  rw [if_pos (show (Value.ref T != Value.none)=true from by simp)]
  refine wpAny_setField hT hdT hsz3 (h _ (fun b o hbo=>(other b fun q=>by rw [q,hnT] at hbo; cases hbo).trans (hkb b o hbo))
    (hl.of_keeps fun b o hb hnf=>⟨o,(other b (noRecord b o hb hnf)).trans hb,rfl⟩) ?_ fun b o hb hnf=>⟨o.slots,(other b (noRecord b o hb hnf)).trans hb⟩)
  exact ⟨oe,vs,T,_,_,(other e (Ne.symm hTe)).trans he,hcls,hd,h1,hnT,hTe,Heap.get?_update_self _ hT (Obj.isFreed_of_fields (Obj.data_mapFields hdT _)),Obj.data_mapFields hdT _,by simp [hsz3]⟩
theorem came_back {C ea:Addr} {G:Heap} {a0:Value} (I:Inv c imm st { s with heap:=G }) (H:Heap.HeldW (hid c G) c.all ea (.ref C) a0 c.L s.heap) (U:G.UpToSlots s.heap) :
    cameBackBy c.M c.A c.env (Fly c imm st C) (.ref ea) s:=by
  unfold cameBackBy
  obtain ⟨f1,f2,f3,f4⟩:=H
  obtain ⟨oe,vs,T,oT,ts,he,hcls,hd,h1,hnT,hTe,hT,hdT,h3⟩:=id f4
  refine wpAny_bind (wpAny_field he hd h1 ?_)
  rw [if_neg (by simp)]
  refine set_flight f1 f3 f4 fun h' k1 k2 k3 k4=>?_
  exact .held G a0 I ⟨k1,f2,k2,k3⟩ (U.trans k4)
theorem passes_fly (O:CxOK c) {C:Addr}:PassesOwn c.M c.A c.env (Fly c imm st C):=fun e s Fl=>by
  have hA:c.A.frames=some c.all:=by
    cases Fl with
    | raw G I _=>exact I.stack
    | held G a0 I _ _=>exact I.stack
  refine note_fly O hA Fl fun ea h' G a0 he I H U=>?_
  subst he
  exact came_back (s:={ s with heap:=h' }) I H U
theorem e_caught (O:CxOK c) {x:Str} {C:Addr} {np pp pos:Pos} {e:Value} (hx:c.scope.names.lookup x=some .globalImplicit) (hd:(x == ("__debug__" : Str))=false) (ex:nsIn c.K mainGlobals x=some (some (.ref C)))
    (q:ktsIn c.K C "BaseException" = true) (Fl:Fly c imm st C e s) :
    wpAny c.M c.A (noteFrame e c.env) (fun _ s₂=>wpAny c.M c.A (setFlight e none) (fun _ s₃ =>
      wpAny c.M c.A (handleBy e c.env [.ExceptHandler (some (.Name x np)) none [.Pass pp] pos]) (fun F s₄=>F=.next∧Inv c imm st s₄) NoE s₃) NoE s₂) NoE s:=by
  have hA:c.A.frames=some c.all:=by
    cases Fl with
    | raw G I _=>exact I.stack
    | held G a0 I _ _=>exact I.stack
  refine note_fly O hA Fl fun ea h' G a0 he I H U=>?_
  subst he
  refine wpAny_landsW H fun h₅ hheld hsm₅=>?_
  have I₅:Inv c imm st { s with heap:=h₅ }:=I.after hheld.1 (U.trans hsm₅)
  obtain ⟨g,m,mt,T0,F,N,B,D,MO,ND,LO⟩:=I₅.ex
  obtain ⟨nm,q',N',bs,bm,hdct,sn,sub,ab,col,dd,k0,k1,k2,k3,k5,newId,hC,hbase,hbT⟩:=kts_cls (Inv.X O B) q
  have hC₅:=F.keep _ _ hC
  obtain ⟨ob,hob,hobc⟩:=hheld.there
  refine wpAny_handleBy_cons (codeAny_handlers_test (name_K F (Inv.X O B) (Inv.TR O B) ex ?_ O.kind hx hd)) (by intro q; cases q)
  refine wpAny_excMatches_sub_self hC₅ hob hobc hbase (codeAny_handlers_suite ?_)
  refine lands_againW hheld fun h₆ hfl₆ hsm₆=>?_
  have I₆:Inv c imm st { s with heap:=h₆ }:=I.after hfl₆.1 ((U.trans hsm₅).trans hsm₆)
  exact wpAny_execs_cons (wpAny_Pass (wpAny_execs_nil ⟨rfl,I₆⟩))
end
noncomputable def Room (c:Cx) (d:Nat):Prop:=c.A.depth+d < recursionLimit∧c.A.units+3 * d+40≤cLine
structure Ev (d:Nat) (sc:Scope) (e:Expr) (st:Sx) (v:SV) (st':Sx):Prop where
  run:∀ (c:Cx) (imm:List (Addr×Obj)) (s:Shared),CxOK c→Room c d→c.scope=sc→Inv c imm st s→wpAny c.M c.A (eval e c.env) (QV c imm st' v) NoE s
structure Tst (d:Nat) (sc:Scope) (e:Expr) (st:Sx) (b:Bool) (st':Sx):Prop where
  run:∀ (c:Cx) (imm:List (Addr×Obj)) (s:Shared),CxOK c→Room c d→c.scope=sc→Inv c imm st s→wpAny c.M c.A (isTrue e c.env (eval e c.env)) (QB c imm st' b) NoE s
section
variable {d:Nat} {sc:Scope} {st st₁ st₂ st':Sx}
theorem Ev.use {e:Expr} {v:SV} (h:Ev d sc e st v st') {c:Cx} {imm:List (Addr×Obj)} {s:Shared} (O:CxOK c) (R:Room c d) (hs:c.scope=sc) (I:Inv c imm st s) {Q:Value→Shared→Prop} {E:Value→Shared→Prop}
    (k:∀ V s' imm',Ext imm imm'→Inv c imm' st' s'→VR c.P imm' v V→Q V s'):wpAny c.M c.A (eval e c.env) Q E s :=
  wpAny_mono (h.run c imm s O R hs I) (fun V s' q=>by obtain ⟨imm',a,b,r⟩:=q; exact k V s' imm' a b r) fun _ _ f=>f.elim
theorem Tst.use {e:Expr} {b:Bool} (h:Tst d sc e st b st') {c:Cx} {imm:List (Addr×Obj)} {s:Shared} (O:CxOK c) (R:Room c d) (hs:c.scope=sc) (I:Inv c imm st s) {Q:Bool→Shared→Prop} {E:Value→Shared→Prop}
    (k:∀ s' imm',Ext imm imm'→Inv c imm' st' s'→Q b s'):wpAny c.M c.A (isTrue e c.env (eval e c.env)) Q E s :=
  wpAny_mono (h.run c imm s O R hs I) (fun V s' q=>by obtain ⟨rfl,imm',a,b⟩:=q; exact k s' imm' a b) fun _ _ f=>f.elim
theorem cJ {c:Cx} {imm imm':List (Addr×Obj)} {v:SV} {V:Value} {s:Shared} (h:Ext imm imm') (q:QV c imm' st v V s):QV c imm st v V s:=by
  obtain ⟨i,a,b⟩:=q
  exact ⟨i,h.trans a,b⟩
theorem Ev.loc {x:Str} {p:Pos} {v:SV} (hv:st.loc.lookup x=some v) (hl:sc.names.lookup x=some .local) (hd:(x == ("__debug__" : Str))=false):Ev d sc (.Name x p) st v st :=
  .mk fun c imm s O R hs I=>e_local O I hv (hs▸hl) hd
theorem Ev.int {i:Int} {k:Nat} {p:Pos}:Ev d sc (.Constant (.int i) k p) st (.int i) st:=.mk fun c imm s O R hs I=>e_int I
theorem Ev.str {x:T} {z:Str} {k:Nat} {p:Pos} (hz:z=S x) (hx:x.length≤lim):Ev d sc (.Constant (.str z) k p) st (.str x) st:=by subst hz; exact .mk fun c imm s O R hs I=>e_str I hx
theorem Ev.bool {b:Bool} {k:Nat} {p:Pos}:Ev d sc (.Constant (.bool b) k p) st (.bool b) st:=.mk fun c imm s O R hs I=>e_bool I
theorem Ev.cnone {k:Nat} {p:Pos}:Ev d sc (.Constant .none k p) st .none st:=.mk fun c imm s O R hs I=>e_none I
theorem k_cls (P:Params):nsIn (KK P) mainGlobals "EsperantoStemmer" = some (some (.ref 672)):=by kernel_rfl
theorem Ev.cls {p:Pos} (hl:sc.names.lookup ("EsperantoStemmer" : Str)=some .globalImplicit):Ev d sc (.Name "EsperantoStemmer" p) st .cls st :=
  .mk fun c imm s O R hs I=>e_glob O I (k_cls _) rfl (hs▸hl) (by decide)
theorem Ev.attr {o:Expr} {n:Str} {p:Pos} {v v':SV} (ho:Ev d sc o st v st₁) (k:∀ c imm V s expr,CxOK c→Room c d→c.scope=sc→Inv c imm st₁ s→VR c.P imm v V→wpAny c.M c.A (getAttr V n expr) (QV c imm st₂ v') NoE s)
    (hz:∀ env:Env,eval (.Attribute o n p) env=(do
      let ov ← eval o env
      standAt p.atName
      let r ← holding [ov] (getAttr ov n true)
      letTemporaryGo o ov r
      pure r)):Ev d sc (.Attribute o n p) st v' st₂:=.mk fun c imm s O R hs I=>by
  refine Attribute_any_ ?_ (hz c.env)
  exact ho.use O R hs I fun V s' imm' x I' q=>wpAny_mono (k c imm' V s' true O R hs I' q) (fun _ _=>cJ x) fun _ _ f=>f
theorem Ev.field {o:Expr} {n:Str} {p:Pos} {x dx:Addr} {fl:Loc} {v:SV} (ho:Ev d sc o st (.self x) st₁) (hf:st₁.f=.some (x,dx,fl)) (hn:n∈fieldNames) (hv:fl.lookup n=some v)
    (hz:∀ env:Env,eval (.Attribute o n p) env=(do
      let ov ← eval o env
      standAt p.atName
      let r ← holding [ov] (getAttr ov n true)
      letTemporaryGo o ov r
      pure r)):Ev d sc (.Attribute o n p) st v st₁ :=
  ho.attr (fun c imm V s expr O R hs I q=>by
    cases q
    exact a_field O I hf hn hv) hz
theorem Ev.bin {l r:Expr} {op:Operator} {p:Pos} {v₁ v₂ v:SV} (hl:Ev d sc l st v₁ st₁) (hr:Ev d sc r st₁ v₂ st₂)
    (k:∀ c imm V₁ V₂ s,CxOK c→Room c d→Inv c imm st₂ s→VR c.P imm v₁ V₁→VR c.P imm v₂ V₂→wpAny (model pw c.w) c.A (binaryOp op V₁ V₂) (QV c imm st₂ v) NoE s):Ev d sc (.BinOp l op r p) st v st₂:=.mk fun c imm s O R hs I=>by
  refine wpAny_BinOp ?_
  exact hl.use O R hs I fun V₁ s₁ imm₁ x₁ I₁ q₁=>hr.use O R hs I₁ fun V₂ s₂ imm₂ x₂ I₂ q₂ =>
    wpAny_mono (k c imm₂ V₁ V₂ s₂ O R I₂ (q₁.mono x₂.mem) q₂) (fun _ _=>cJ (x₁.trans x₂)) fun _ _ f=>f
theorem Ev.add {l r:Expr} {p:Pos} {a b:Int} (hl:Ev d sc l st (.int a) st₁) (hr:Ev d sc r st₁ (.int b) st₂):Ev d sc (.BinOp l .Add r p) st (.int (a+b)) st₂ :=
  hl.bin hr fun c imm V₁ V₂ s O R I q₁ q₂=>by
    obtain ⟨t,rfl⟩:=q₁
    obtain ⟨u,rfl⟩:=q₂
    exact P.add_int (eJ I (.int_ _) _)
theorem Ev.sub {l r:Expr} {p:Pos} {a b:Int} (hl:Ev d sc l st (.int a) st₁) (hr:Ev d sc r st₁ (.int b) st₂):Ev d sc (.BinOp l .Sub r p) st (.int (a - b)) st₂ :=
  hl.bin hr fun c imm V₁ V₂ s O R I q₁ q₂=>by
    obtain ⟨t,rfl⟩:=q₁
    obtain ⟨u,rfl⟩:=q₂
    exact P.sub_int (eJ I (.int_ _) _)
theorem Ev.shr {l r:Expr} {p:Pos} {a:Int} (hl:Ev d sc l st (.int a) st₁) (hr:Ev d sc r st₁ (.int 1) st₂) (ha:0≤a):Ev d sc (.BinOp l .RShift r p) st (.int (a / 2)) st₂ :=
  hl.bin hr fun c imm V₁ V₂ s O R I q₁ q₂=>by
    obtain ⟨t,rfl⟩:=q₁
    obtain ⟨u,rfl⟩:=q₂
    exact wpAny_rshift1_int ha (eJ I (.int_ _) _)
theorem S_app (x y:T):S x++S y=S (x++y):=by
  show Str.append _ _=_
  unfold Str.append S
  simp
theorem kS:lim≤sizeLine:=by decide
theorem Ev.cat {l r:Expr} {p:Pos} {a b:T} (hl:Ev d sc l st (.str a) st₁) (hr:Ev d sc r st₁ (.str b) st₂) (h:(a++b).length≤lim):Ev d sc (.BinOp l .Add r p) st (.str (a++b)) st₂ :=
  hl.bin hr fun c imm V₁ V₂ s O R I q₁ q₂=>by
    obtain ⟨t,rfl,_⟩:=q₁
    obtain ⟨u,rfl,_⟩:=q₂
    refine SB.add (fun t' k=>?_) (by rw [cD,cD,← List.length_append]; exact Nat.le_trans h kS)
    rw [S_app]
    exact eJ I (.str_ _ h) _
theorem Ev.neg {e:Expr} {p:Pos} {a:Int} (h:Ev d sc e st (.int a) st'):Ev d sc (.UnaryOp .USub e p) st (.int (-a)) st':=.mk fun c imm s O R hs I=>by
  refine wpAny_UnaryOp ?_
  exact h.use O R hs I fun V s' imm' x I' q=>by
    obtain ⟨t,rfl⟩:=q
    exact P.neg_int (cJ x (eJ I' (.int_ _) _))
structure CmpOK (op:CmpOp) (v₁ v₂:SV) (b:Bool):Prop where
  run:∀ (c:Cx) (imm:List (Addr×Obj)) (st:Sx) (V₁ V₂:Value) (s:Shared),CxOK c→Inv c imm st s→VR c.P imm v₁ V₁→VR c.P imm v₂ V₂ →
  ∀ Q:Value→Shared→Prop,(∀ n,Q (.bool b) { s with toks:=n })→wpAny (model pw c.w) c.A (compareOp op V₁ V₂) Q NoE s
theorem Ev.cmp {l r:Expr} {op:CmpOp} {p:Pos} {v₁ v₂:SV} {b:Bool} (hl:Ev d sc l st v₁ st₁) (hr:Ev d sc r st₁ v₂ st₂) (k:CmpOK op v₁ v₂ b) (hm:behindInMarks op r=false:=by rfl) :
    Ev d sc (.Compare l [op] [r] p) st (.bool b) st₂:=.mk fun c imm s O R hs I=>by
  refine wpAny_Compare1 ?_ hm
  exact hl.use O R hs I fun V₁ s₁ imm₁ x₁ I₁ q₁=>hr.use O R hs I₁ fun V₂ s₂ imm₂ x₂ I₂ q₂ =>
    wpAny_mono (k.run c imm₂ _ V₁ V₂ s₂ O I₂ (q₁.mono x₂.mem) q₂ (QV c imm st₂ (.bool b)) fun n=>cJ (x₁.trans x₂) (eJ I₂ .bool_ n)) (fun _ _ h=>h) fun _ _ f=>f
theorem Tst.cmp {l r:Expr} {op:CmpOp} {p:Pos} {v₁ v₂:SV} {b:Bool} (hl:Ev d sc l st v₁ st₁) (hr:Ev d sc r st₁ v₂ st₂) (k:CmpOK op v₁ v₂ b) (hm:behindInMarks op r=false:=by rfl) :
    Tst d sc (.Compare l [op] [r] p) st b st₂:=.mk fun c imm s O R hs I=>by
  refine wpAny_isTrue_Compare1 ?_ hm
  exact hl.use O R hs I fun V₁ s₁ imm₁ x₁ I₁ q₁=>hr.use O R hs I₁ fun V₂ s₂ imm₂ x₂ I₂ q₂ =>
    wpAny_mono (k.run c imm₂ _ V₁ V₂ s₂ O I₂ (q₁.mono x₂.mem) q₂ (fun V s'=>wpAny c.M c.A (truthy V) (QB c imm st₂ b) NoE s') fun n=>wpAny_truthy_bool ⟨rfl,imm₂,x₁.trans x₂,I₂.tok n⟩) (fun _ _ h=>h) fun _ _ f=>f
theorem mD {op:CmpOp} {a b:Int} {r:Bool} (h:(match op with | .Eq=>decide (a=b) | .NotEq=>decide (a≠b) | .Lt=>decide (a < b) | .LtE=>decide (a≤b) | .Gt=>decide (b < a) | .GtE=>decide (b≤a) | _=>!r)=r) :
    CmpOK op (.int a) (.int b) r:=.mk fun c imm st V₁ V₂ s O I q₁ q₂ Q k=>by
  obtain ⟨t,rfl⟩:=q₁
  obtain ⟨u,rfl⟩:=q₂
  have k':=k s.toks
  cases op with
  | Eq=>exact P.eq_int (by rw [show (a == b)=r from by rw [← h]; by_cases e:a=b <;> simp [e]]; exact k')
  | NotEq=>exact P.ne_int (by rw [show (a != b)=r from by rw [← h]; by_cases e:a=b <;> simp [e]]; exact k')
  | Lt=>exact P.lt_int (by rw [← h] at k'; exact k')
  | LtE=>exact P.le_int (by rw [← h] at k'; exact k')
  | Gt=>exact P.gt_int (by rw [← h] at k'; exact k')
  | GtE=>exact P.ge_int (by rw [← h] at k'; exact k')
  | Is=>cases r <;> cases h
  | IsNot=>cases r <;> cases h
  | In=>cases r <;> cases h
  | NotIn=>cases r <;> cases h
theorem c_str_eq {a b:T} {r:Bool} (h:decide (a=b)=r):CmpOK .Eq (.str a) (.str b) r:=.mk fun c imm st V₁ V₂ s O I q₁ q₂ Q k=>by
  obtain ⟨t,rfl,_⟩:=q₁
  obtain ⟨u,rfl,_⟩:=q₂
  refine P.eq_str ?_
  rw [show ((S a).cps.toList == (S b).cps.toList)=r from by rw [← h]; show (a == b)=_; by_cases e:a=b <;> simp [e]]
  exact k s.toks
theorem c_str_ne {a b:T} {r:Bool} (h:decide (a≠b)=r):CmpOK .NotEq (.str a) (.str b) r:=.mk fun c imm st V₁ V₂ s O I q₁ q₂ Q k=>by
  obtain ⟨t,rfl,_⟩:=q₁
  obtain ⟨u,rfl,_⟩:=q₂
  refine P.ne_str ?_
  rw [show ((S a).cps.toList != (S b).cps.toList)=r from by rw [← h]; show (a != b)=_; by_cases e:a=b <;> simp [e]]
  exact k s.toks
theorem Tst.plain {e:Expr} {b:Bool} (h:Ev d sc e st (.bool b) st') (he:∀ env:Env,isTrue e env (eval e env)=(do let v ← eval e env; standAt e.pos; holding [v] (truthy v))):Tst d sc e st b st':=.mk fun c imm s O R hs I=>by
  refine wpAny_isTrue_value ?_ (he c.env)
  exact h.use O R hs I fun V s' imm' x I' q=>by
    cases q
    exact wpAny_truthy_bool ⟨rfl,imm',x,I'⟩
theorem qb_ext {c:Cx} {imm imm':List (Addr×Obj)} {b b':Bool} {s:Shared} (h:Ext imm imm') (q:QB c imm' st b b' s):QB c imm st b b' s:=by
  obtain ⟨e,i,a,r⟩:=q
  exact ⟨e,i,h.trans a,r⟩
theorem Tst.not {e:Expr} {p:Pos} {b:Bool} (h:Tst d sc e st b st'):Tst d sc (.UnaryOp .Not e p) st (!b) st':=.mk fun c imm s O R hs I =>
  wpAny_isTrue_Not (h.use O R hs I fun s' imm' x I'=>⟨rfl,imm',x,I'⟩)
theorem Tst.or_t {e:Expr} {r:List Expr} {p:Pos} (h:Tst d sc e st true st'):Tst d sc (.BoolOp .Or (e::r) p) st true st':=.mk fun c imm s O R hs I =>
  isTrue_or (h.use O R hs I fun s' imm' x I'=>by rw [if_pos rfl]; exact ⟨rfl,imm',x,I'⟩)
theorem Tst.or_f {e:Expr} {r:List Expr} {p:Pos} {b:Bool} (h:Tst d sc e st false st₁) (h':Tst d sc (.BoolOp .Or r p) st₁ b st'):Tst d sc (.BoolOp .Or (e::r) p) st b st':=.mk fun c imm s O R hs I =>
  isTrue_or (h.use O R hs I fun s' imm' x I'=>by
    rw [if_neg (by decide)]
    exact h'.use O R hs I' fun s'' imm'' x' I''=>⟨rfl,imm'',x.trans x',I''⟩)
theorem Tst.or_nil {p:Pos}:Tst d sc (.BoolOp .Or [] p) st false st:=.mk fun c imm s O R hs I=>isTrue_or_nil ⟨rfl,imm,.refl,I⟩
end
theorem Zl {d:Nat} {sc:Scope} {st:Sx} {x:Str} {p:Pos} {v:SV} (hv:st.loc.lookup x=some v:=by rfl) (hl:sc.names.lookup x=some .local:=by rfl) (hd:(x == ("__debug__" : Str))=false:=by decide):Ev d sc (.Name x p) st v st:=Ev.loc hv hl hd
theorem Zm {d:Nat} {sc:Scope} {st:Sx} {x:Str} {p:Pos} {v:SV} (hl:sc.names.lookup x=some .local) (hv:st.loc.lookup x=some v:=by rfl) (hd:(x == ("__debug__" : Str))=false:=by decide):Ev d sc (.Name x p) st v st:=Ev.loc hv hl hd
noncomputable abbrev Ac:=@Tst.cmp
noncomputable abbrev Ae:=@Ev.int
noncomputable abbrev Ag:=@Ev.sub
noncomputable abbrev Ai:=@Tst.plain
noncomputable abbrev Aj:=@Ev.field
noncomputable abbrev Ap:=@Ev.bool
noncomputable abbrev Ar:=@Ev.str
noncomputable abbrev Bo:=@Tst.or_f
noncomputable abbrev Cb:=@Ev.add
noncomputable abbrev Cc:=@Ev.neg
noncomputable abbrev Ch:=@Ev.cat
noncomputable abbrev Ci:=@Tst.or_nil
noncomputable def amgLook (P:Params) (v:Value) (e:T×Int×Int):Bool:=match v with
  | .ref b=>(match (Mine.KK P).lookup b with
    | some ⟨.ref C,some dx,.plain,sl⟩=>C == 218 && sl.size == 0 && (match (Mine.KK P).lookup dx with
      | some ⟨.type "dict",none,.dict es n,sl'⟩=>sl'.size == 0 && (match getL "s" es.toList,getL "substring_i" es.toList,getL "result" es.toList with
        | some (some (.str x _)),some (some (.int i _)),some (some (.int r _))=>x.cps.toList == e.1 && i == e.2.1 && r == e.2.2
        | _,_,_=>false)
      | _=>false)
    | _=>false)
  | _=>false
theorem amgIs_of {P:Params} {v:Value} {e:T×Int×Int} (h:amgLook P v e=true):∃ b,v=.ref b∧AmgIs P b e:=by
  unfold amgLook at h
  split at h
  · rename_i b
    split at h
    · rename_i C dx sl h1
      simp only [Bool.and_eq_true,beq_iff_eq] at h
      obtain ⟨⟨rfl,hs⟩,h⟩:=h
      split at h
      · rename_i es n sl' h2
        simp only [Bool.and_eq_true,beq_iff_eq] at h
        obtain ⟨hs',h⟩:=h
        split at h
        · rename_i x t1 i t2 r t3 e1 e2 e3
          simp only [Bool.and_eq_true,beq_iff_eq] at h
          obtain ⟨⟨hx,rfl⟩,rfl⟩:=h
          have hsl:sl=#[]:=by simpa using hs
          have hsl':sl'=#[]:=by simpa using hs'
          subst hsl hsl'
          refine ⟨b,rfl,dx,es.toList,n,t1,t2,t3,h1,h2,?_,e2,e3⟩
          rw [e1,← hx]
          rfl
        · cases h
      · cases h
    · cases h
  · cases h
noncomputable def mM (P:Params):List Value→List (T×Int×Int)→Bool
  | [],[]=>true
  | v::vs,e::es=>amgLook P v e && mM P vs es
  | _,_=>false
theorem amgsIs_of {P:Params}:∀ {vs:List Value} {es:List (T×Int×Int)},mM P vs es=true→All2 (fun e v=>∃ b,v=.ref b∧AmgIs P b e) es vs
  | [],[],_=>.nil
  | [],_::_,h=>(nomatch h)
  | _::_,[],h=>(nomatch h)
  | v::vs,e::es,h=>by
    obtain ⟨h1,h2⟩:=Bool.and_eq_true_iff.mp (show (amgLook P v e && mM P vs es)=true from h)
    exact .cons (amgIs_of h1) (amgsIs_of h2)
noncomputable def tabLook (P:Params) (a:Addr) (t:List (T×Int×Int)):Bool:=match (Mine.KK P).lookup a with
  | some ⟨.type "list",none,.seq vs n,sl⟩=>mM P vs.toList t
  | _=>false
theorem eV {P:Params} {a:Addr} {t:List (T×Int×Int)} (h:tabLook P a t=true):mE P a t:=by
  unfold tabLook at h
  split at h
  · rename_i vs n sl h1
    exact ⟨vs,n,sl,h1,amgsIs_of h⟩
  · cases h
noncomputable def A0:List (T×Int×Int):=[([],-1,14),([45],0,13),([99,120],0,1),([103,120],0,2),([104,120],0,3),([106,120],0,4),([113],0,12),([115,120],0,5),([117,120],0,6),([119],0,12),([120],0,12),([121],0,12),([225],0,7),([233],0,8),([237],0,9),([243],0,10),([250],0,11)]
noncomputable def A1:List (T×Int×Int):=[([97,115],-1,-1),([105],-1,-1),([105,115],1,-1),([111,115],-1,-1),([117],-1,-1),([117,115],4,-1)]
noncomputable def A2:List (T×Int×Int):=[([99,105],-1,-1),([103,105],-1,-1),([104,105],-1,-1),([108,105],-1,-1),([105,108,105],3,-1),([349,108,105],3,-1),([109,105],-1,-1),([110,105],-1,-1),([111,110,105],7,-1),([114,105],-1,-1),([115,105],-1,-1),([118,105],-1,-1),([105,118,105],11,-1),([285,105],-1,-1),([349,105],-1,-1),([105,349,105],14,-1),([109,97,108,349,105],14,-1)]
noncomputable def A3:List (T×Int×Int):=[([97,109,98],-1,-1),([98,97,108,100],-1,-1),([109,97,108,98,97,108,100],1,-1),([109,111,114,103],-1,-1),([112,111,115,116,109,111,114,103],3,-1),([97,100,105],-1,-1),([104,111,100,105],-1,-1),([97,110,107],-1,-1),([265,105,114,107],-1,-1),([116,117,116,265,105,114,107],8,-1),([112,114,101,115,107],-1,-1),([97,108,109,101,110],-1,-1),([97,112,101,110],-1,-1),([104,105,101,114],-1,-1),([97,110,116,97,365,104,105,101,114],13,-1),([109,97,108,103,114],-1,-1),([97,110,107,111,114],-1,-1),([107,111,110,116,114],-1,-1),([97,110,115,116,97,116],-1,-1),([107,118,97,122],-1,-1)]
noncomputable def A4:List (T×Int×Int):=[([97,108,105,117],-1,-1),([117,110,117],-1,-1)]
noncomputable def A5:List (T×Int×Int):=[([97,104,97],-1,-1),([104,97,104,97],0,-1),([104,97,108,101,108,117,106,97],-1,-1),([104,111,108,97],-1,-1),([104,111,115,97,110,97],-1,-1),([109,97,108,116,114,97],-1,-1),([104,117,114,97],-1,-1),([293,97,293,97],-1,-1),([101,107,100,101],-1,-1),([101,108,100,101],-1,-1),([100,105,115,100,101],-1,-1),([101,104,101],-1,-1),([109,97,108,116,114,101],-1,-1),([100,105,114,108,105,100,105,100,105],-1,-1),([109,97,108,112,108,105],-1,-1),([109,97,108,265,105],-1,-1),([109,97,108,107,97,106],-1,-1),([97,109,101,110],-1,-1),([116,97,109,101,110],17,-1),([111,104,111],-1,-1),([109,97,108,116,114,111],-1,-1),([109,105,110,117,115],-1,-1),([117,104,117],-1,-1),([109,117,117],-1,-1)]
noncomputable def A6:List (T×Int×Int):=[([116,114,105],-1,-1),([100,117],-1,-1),([117,110,117],-1,-1)]
noncomputable def A7:List (T×Int×Int):=[([100,101,107],-1,-1),([99,101,110,116],-1,-1)]
noncomputable def A8:List (T×Int×Int):=[([107],-1,-1),([107,101,108,107],0,-1),([110,101,110],-1,-1),([116],-1,-1),([109,117,108,116],3,-1),([115,97,109,116],3,-1),([265],-1,-1)]
noncomputable def A9:List (T×Int×Int):=[([97],-1,-1),([101],-1,-1),([105],-1,-1),([106],-1,1),([97,106],3,-1),([111,106],3,-1),([110],-1,1),([97,110],6,-1),([101,110],6,-1),([106,110],6,1),([97,106,110],9,-1),([111,106,110],9,-1),([111,110],6,-1),([111],-1,-1),([97,115],-1,-1),([105,115],-1,-1),([111,115],-1,-1),([117,115],-1,-1),([117],-1,-1)]
theorem k_a0 (P:Params):mE P 360 A0:=eV (by kernel_rfl)
theorem k_a1 (P:Params):mE P 379 A1:=eV (by kernel_rfl)
theorem k_a2 (P:Params):mE P 431 A2:=eV (by kernel_rfl)
theorem k_a3 (P:Params):mE P 492 A3:=eV (by kernel_rfl)
theorem k_a4 (P:Params):mE P 499 A4:=eV (by kernel_rfl)
theorem k_a5 (P:Params):mE P 572 A5:=eV (by kernel_rfl)
theorem k_a6 (P:Params):mE P 582 A6:=eV (by kernel_rfl)
theorem k_a7 (P:Params):mE P 589 A7:=eV (by kernel_rfl)
theorem k_a8 (P:Params):mE P 611 A8:=eV (by kernel_rfl)
theorem k_a9 (P:Params):mE P 669 A9:=eV (by kernel_rfl)
theorem k_vow (P:Params):GrpIs P 230 [97,101,105,111,117]:=⟨vowI P,485,by kernel_rfl,setI_ok P 485 _,by decide⟩
theorem k_dig (P:Params):GrpIs P 231 [48,49,50,51,52,53,54,55,56,57]:=⟨digI P,498,by kernel_rfl,setI_ok P 498 _,by decide⟩
section
variable {d:Nat} {sc:Scope} {st st₁ st₂ st':Sx}
theorem k_clsT (P:Params):typeIn (Mine.KK P) (.ref 672)=some (.type "type")∧readsIn (Mine.KK P) 672 (.type "type")=true:=⟨by kernel_rfl,by kernel_rfl⟩
theorem Ev.clsAttr {o:Expr} {n:Str} {p:Pos} {v:Value} {x:SV} (ho:Ev d sc o st .cls st₁) (e:∀ P:Params,findCls (Mine.KK P) (.ref 672) (.type "type") n=some (.val v)) (hh:handedIn v=true)
    (hv:∀ (c:Cx) (imm:List (Addr×Obj)),VR c.P imm x v)
    (hz:∀ env:Env,eval (.Attribute o n p) env=(do
      let ov ← eval o env
      standAt p.atName
      let r ← holding [ov] (getAttr ov n true)
      letTemporaryGo o ov r
      pure r)):Ev d sc (.Attribute o n p) st x st₁ :=
  ho.attr (fun c imm V s expr O R hs I q=>by
    cases q
    obtain ⟨g,m,mt,_,F,N,B,_,MO,_,LO⟩:=I.ex
    exact cls_val F (Inv.X O B) (k_clsT _).1 (k_clsT _).2 (e _) hh (eJ I (hv c imm) _)) hz
theorem Ev.a0 {p q:Pos} (hl:sc.names.lookup ("EsperantoStemmer" : Str)=some .globalImplicit):Ev d sc (.Attribute (.Name "EsperantoStemmer" p) "a_0" q) st (.tab A0) st :=
  (Ev.cls hl).clsAttr (v:=.ref 360) (fun P=>by kernel_rfl) rfl (fun c imm=>⟨360,rfl,k_a0 _⟩) Zn
theorem Ev.a1 {p q:Pos} (hl:sc.names.lookup ("EsperantoStemmer" : Str)=some .globalImplicit):Ev d sc (.Attribute (.Name "EsperantoStemmer" p) "a_1" q) st (.tab A1) st :=
  (Ev.cls hl).clsAttr (v:=.ref 379) (fun P=>by kernel_rfl) rfl (fun c imm=>⟨379,rfl,k_a1 _⟩) Zn
theorem Ev.a2 {p q:Pos} (hl:sc.names.lookup ("EsperantoStemmer" : Str)=some .globalImplicit):Ev d sc (.Attribute (.Name "EsperantoStemmer" p) "a_2" q) st (.tab A2) st :=
  (Ev.cls hl).clsAttr (v:=.ref 431) (fun P=>by kernel_rfl) rfl (fun c imm=>⟨431,rfl,k_a2 _⟩) Zn
theorem Ev.a3 {p q:Pos} (hl:sc.names.lookup ("EsperantoStemmer" : Str)=some .globalImplicit):Ev d sc (.Attribute (.Name "EsperantoStemmer" p) "a_3" q) st (.tab A3) st :=
  (Ev.cls hl).clsAttr (v:=.ref 492) (fun P=>by kernel_rfl) rfl (fun c imm=>⟨492,rfl,k_a3 _⟩) Zn
theorem Ev.a4 {p q:Pos} (hl:sc.names.lookup ("EsperantoStemmer" : Str)=some .globalImplicit):Ev d sc (.Attribute (.Name "EsperantoStemmer" p) "a_4" q) st (.tab A4) st :=
  (Ev.cls hl).clsAttr (v:=.ref 499) (fun P=>by kernel_rfl) rfl (fun c imm=>⟨499,rfl,k_a4 _⟩) Zn
theorem Ev.a5 {p q:Pos} (hl:sc.names.lookup ("EsperantoStemmer" : Str)=some .globalImplicit):Ev d sc (.Attribute (.Name "EsperantoStemmer" p) "a_5" q) st (.tab A5) st :=
  (Ev.cls hl).clsAttr (v:=.ref 572) (fun P=>by kernel_rfl) rfl (fun c imm=>⟨572,rfl,k_a5 _⟩) Zn
theorem Ev.a6 {p q:Pos} (hl:sc.names.lookup ("EsperantoStemmer" : Str)=some .globalImplicit):Ev d sc (.Attribute (.Name "EsperantoStemmer" p) "a_6" q) st (.tab A6) st :=
  (Ev.cls hl).clsAttr (v:=.ref 582) (fun P=>by kernel_rfl) rfl (fun c imm=>⟨582,rfl,k_a6 _⟩) Zn
theorem Ev.a7 {p q:Pos} (hl:sc.names.lookup ("EsperantoStemmer" : Str)=some .globalImplicit):Ev d sc (.Attribute (.Name "EsperantoStemmer" p) "a_7" q) st (.tab A7) st :=
  (Ev.cls hl).clsAttr (v:=.ref 589) (fun P=>by kernel_rfl) rfl (fun c imm=>⟨589,rfl,k_a7 _⟩) Zn
theorem Ev.a8 {p q:Pos} (hl:sc.names.lookup ("EsperantoStemmer" : Str)=some .globalImplicit):Ev d sc (.Attribute (.Name "EsperantoStemmer" p) "a_8" q) st (.tab A8) st :=
  (Ev.cls hl).clsAttr (v:=.ref 611) (fun P=>by kernel_rfl) rfl (fun c imm=>⟨611,rfl,k_a8 _⟩) Zn
theorem Ev.a9 {p q:Pos} (hl:sc.names.lookup ("EsperantoStemmer" : Str)=some .globalImplicit):Ev d sc (.Attribute (.Name "EsperantoStemmer" p) "a_9" q) st (.tab A9) st :=
  (Ev.cls hl).clsAttr (v:=.ref 669) (fun P=>by kernel_rfl) rfl (fun c imm=>⟨669,rfl,k_a9 _⟩) Zn
theorem Ev.gvowel {p q:Pos} (hl:sc.names.lookup ("EsperantoStemmer" : Str)=some .globalImplicit):Ev d sc (.Attribute (.Name "EsperantoStemmer" p) "g_vowel" q) st (.grp [97,101,105,111,117]) st :=
  (Ev.cls hl).clsAttr (v:=.ref 230) (fun P=>by kernel_rfl) rfl (fun c imm=>⟨230,rfl,k_vow _⟩) Zn
theorem Ev.gdigit {p q:Pos} (hl:sc.names.lookup ("EsperantoStemmer" : Str)=some .globalImplicit):Ev d sc (.Attribute (.Name "EsperantoStemmer" p) "g_digit" q) st (.grp [48,49,50,51,52,53,54,55,56,57]) st :=
  (Ev.cls hl).clsAttr (v:=.ref 231) (fun P=>by kernel_rfl) rfl (fun c imm=>⟨231,rfl,k_dig _⟩) Zn
theorem Ev.gaou {p q:Pos} (hl:sc.names.lookup ("EsperantoStemmer" : Str)=some .globalImplicit):Ev d sc (.Attribute (.Name "EsperantoStemmer" p) "g_aou" q) st (.str [97,111,117]) st :=
  (Ev.cls hl).clsAttr (v:=.str (S [97,111,117]) 496) (fun P=>by kernel_rfl) rfl (fun c imm=>.str_ _ (by decide)) Zn
end
noncomputable def noSl:Expr→Bool
  | .Slice ..=>false
  | _=>true
theorem fK {slice:Expr} (h:noSl slice=true) (o i:Value):subscripted slice false o i=operate [o,i] (getItem o i):=by
  cases slice <;> first | rfl | cases h
theorem gV (e:Expr) (x:Str) (t:Tok) (r:Value):letTemporaryGo e (.str x t) r=pure ():=by cases e <;> rfl
noncomputable def sl (x:T) (i j:Int):T:=(x.drop i.toNat).take (j - i).toNat
theorem sl_length (x:T) (i j:Int):(sl x i j).length≤x.length:=by
  unfold sl
  rw [List.length_take,List.length_drop]
  lia
theorem lE (x:T):(S x).cps.toList=x:=rfl
theorem slice_S {x:T} {i j:Int} (h:0≤i∧i≤j∧j≤x.length):Txt.slice (S x) (some i) (some j)=S (sl x i j) :=
  StrLaws.sliceText_plain (x:=S x) h
theorem fU {x:T} {i:Int} (h:0≤i∧i≤x.length):Txt.slice (S x) (some i) none=S (sl x i x.length) :=
  StrLaws.sliceText_from (x:=S x) h
theorem starts_S (x y:T):Txt.startswith (S x) (S y)=decide (x.take y.length=y):=by
  unfold Txt.startswith
  rw [StrLaws.subAt_eq,lE,lE,cD,cD,List.drop_zero]
  by_cases h:x.take y.length=y
  · have hl:y.length≤x.length:=by
      have:=congrArg List.length h
      rw [List.length_take] at this
      lia
    simp [h,hl]
  · simp [h]
theorem ends_S (x y:T):Txt.endswith (S x) (S y)=decide (y.length≤x.length∧x.drop (x.length - y.length)=y):=by
  unfold Txt.endswith
  rw [StrLaws.subAt_eq,lE,lE,cD,cD]
  by_cases hl:y.length≤x.length
  · have e:(x.drop (x.length - y.length)).take y.length=x.drop (x.length - y.length):=List.take_of_length_le (by rw [List.length_drop]; lia)
    rw [e]
    by_cases h:x.drop (x.length - y.length)=y
    · simp [h,hl]
    · simp [h]
  · simp [hl]
section
variable {c:Cx} {imm:List (Addr×Obj)} {st:Sx} {s:Shared}
theorem Inv.keeps (I:Inv c imm st s) {h':Heap} (k:∀ b o,s.heap.get? b=some o→h'.get? b=some o) (n:Nat):Inv c imm st { s with heap:=h',toks:=n }:=by
  obtain ⟨g,m,mt,T,F,N,B,D,MO,ND,LO⟩:=I.ex
  exact ⟨I.sh,g,m,mt,T,⟨F.ns.keeps k,fun b o e=>k b o (F.keep b o e),F.above⟩,fun p hp=>⟨k _ _ (N p hp).1,(N p hp).2⟩,B,D,MO,ND,LO⟩
theorem Inv.again {P:Prop} (I:Inv c imm st s) (k:∀ g m mt,KtsTurn c.fs c.g₀ g→Fr g c.L s.heap m→News g c.L s.heap (mt++(imm++c.rest))→Below c.A₀ c.base c.outer g→KtsDicts c.fs g→MutOK c.P st mt→((mt++(imm++c.rest)).map (·.1)).Nodup→LocOK c.P imm st.loc m →
    (∀ h' n,Fr g c.L h' m→News g c.L h' (mt++(imm++c.rest))→Inv c imm st { s with heap:=h',toks:=n })→P):P:=by
  obtain ⟨g,m,mt,T,F,N,B,D,MO,ND,LO⟩:=I.ex
  exact k g m mt T F N B D MO ND LO fun h' n F' N'=>⟨I.sh,g,m,mt,T,F',N',B,D,MO,ND,LO⟩
theorem CxOK.handled (O:CxOK c):c.A.handled=none:=O.hd
end
section
variable {d:Nat} {sc:Scope} {st st₁ st₂ st₃ st':Sx}
theorem Ev.idx {e i:Expr} {p:Pos} {x:T} {k:Int} {ch:Nat} (he:Ev d sc e st (.str x) st₁) (hi:Ev d sc i st₁ (.int k) st₂) (hk:0≤k) (hx:x[k.toNat]?=some ch)
    (hs:noSl i=true:=by rfl):Ev d sc (.Subscript e i p) st (.str [ch]) st₂:=.mk fun c imm s O R hc I=>by
  refine Subscript_ ?_
  refine he.use O R hc I fun V₁ s₁ imm₁ x₁ I₁ q₁=>hi.use O R hc I₁ fun V₂ s₂ imm₂ x₂ I₂ q₂=>?_
  obtain ⟨t,rfl,hl⟩:=q₁
  obtain ⟨u,rfl⟩:=q₂
  obtain ⟨hlt,hg⟩:=List.getElem?_eq_some_iff.mp hx
  have h2:k < x.length:=by lia
  have hl':x.length≤65536:=hl
  have hci:Txt.item (S x) k=S [ch]:=by
    unfold Txt.item Txt.charAt seqIndex?
    rw [cD,if_neg (Int.not_lt.mpr hk)]
    simp only [hk,h2,decide_true,Bool.and_self,if_true,Option.bind_some]
    have:(S x).cps[k.toNat]?=some ch:=by unfold S; simpa using hx
    rw [this]
    rfl
  refine item_str (by unfold fitsSsize; simp; lia) (by rw [cD]; lia) (by rw [cD]; exact h2) (fun _=>?_) (fK hs _ _) (fun r=>gV _ _ _ _)
  rw [hci]
  exact cJ (x₁.trans x₂) (eJ I₂ (.str_ _ (by show 1≤65536; decide)) _)
theorem Ev.slice {e a b:Expr} {p q:Pos} {x:T} {i j:Int} (he:Ev d sc e st (.str x) st₁) (ha:Ev d sc a st₁ (.int i) st₂) (hb:Ev d sc b st₂ (.int j) st₃) (h:0≤i∧i≤j∧j≤x.length) :
    Ev d sc (.Subscript e (.Slice (some a) (some b) Option.none q) p) st (.str (sl x i j)) st₃:=.mk fun c imm s O R hc I=>by
  refine Subscript_ ?_
  refine he.use O R hc I fun V₁ s₁ imm₁ x₁ I₁ q₁=>wpAny_Slice (ha.use O R hc I₁ fun V₂ s₂ imm₂ x₂ I₂ q₂=>hb.use O R hc I₂ fun V₃ s₃ imm₃ x₃ I₃ q₃=>wpAny_pure ?_)
  obtain ⟨t,rfl,hl⟩:=q₁
  obtain ⟨u,rfl⟩:=q₂
  obtain ⟨u',rfl⟩:=q₃
  refine I₃.again fun g m mt T F N B D MO ND LO ag=>?_
  refine slice_strN_ss F N (fun h' t' k F' N'=>?_) rfl (fun r=>gV _ _ _ _) (by rw [cD]; exact Nat.le_trans hl kS)
  rw [slice_S h]
  exact ⟨imm₃,(x₁.trans x₂).trans x₃,ag h' k F' N',.str_ _ (Nat.le_trans (sl_length _ _ _) hl)⟩
theorem Ev.sliceFrom {e a:Expr} {p q:Pos} {x:T} {i:Int} (he:Ev d sc e st (.str x) st₁) (ha:Ev d sc a st₁ (.int i) st₂) (h:0≤i∧i≤x.length) :
    Ev d sc (.Subscript e (.Slice (some a) Option.none Option.none q) p) st (.str (sl x i x.length)) st₂:=.mk fun c imm s O R hc I=>by
  refine Subscript_ ?_
  refine he.use O R hc I fun V₁ s₁ imm₁ x₁ I₁ q₁=>wpAny_Slice (ha.use O R hc I₁ fun V₂ s₂ imm₂ x₂ I₂ q₂=>wpAny_pure (wpAny_pure ?_))
  obtain ⟨t,rfl,hl⟩:=q₁
  obtain ⟨u,rfl⟩:=q₂
  refine I₂.again fun g m mt T F N B D MO ND LO ag=>?_
  refine slice_strN_sn F N (fun h' t' k F' N'=>?_) rfl (fun r=>gV _ _ _ _) (by rw [cD]; exact Nat.le_trans hl kS)
  rw [fU h]
  exact ⟨imm₂,x₁.trans x₂,ag h' k F' N',.str_ _ (Nat.le_trans (sl_length _ _ _) hl)⟩
theorem Ev.entry {x:Str} {px:Pos} {i:Expr} {p:Pos} {t:List (T×Int×Int)} {k:Int} {a:T×Int×Int} (he:Ev d sc (.Name x px) st (.tab t) st₁) (hi:Ev d sc i st₁ (.int k) st₂) (hk:0≤k) (hx:t[k.toNat]?=some a) (hlen:t.length≤1000)
    (hs:noSl i=true:=by rfl):Ev d sc (.Subscript (.Name x px) i p) st (.amg a) st₂:=.mk fun c imm s O R hc I=>by
  refine Subscript_ ?_
  refine he.use O R hc I fun V₁ s₁ imm₁ x₁ I₁ q₁=>hi.use O R hc I₁ fun V₂ s₂ imm₂ x₂ I₂ q₂=>?_
  obtain ⟨ta,rfl,vs,n,slo,hlk,hall⟩:=q₁
  obtain ⟨u,rfl⟩:=q₂
  obtain ⟨v,hv,b,rfl,hb⟩:=hall.get hx
  obtain ⟨hlt,hg⟩:=List.getElem?_eq_some_iff.mp hx
  refine I₂.again fun g m mt T F N B D MO ND LO ag=>?_
  refine topList_K (l:=vs.toList) (sl:=slo) F (Inv.X O B) hlk hk (by lia) hv ?_ (fK hs _ _)
  exact cJ (x₁.trans x₂) ⟨imm₂,.refl,I₂,b,rfl,hb⟩
end
noncomputable abbrev Br:=@Ev.entry
noncomputable abbrev Bu:=@Ev.idx
theorem k_amg (P:Params):hasDictIn (Mine.KK P) 218=true∧∀ n∈(["s","substring_i","result"]:List Str),plainGet (Mine.KK P) 218 n=true∧findIn (Mine.KK P) (.ref 218) n=some none:=by
  refine ⟨by kernel_rfl,?_⟩
  have h:((["s","substring_i","result"]:List Str).all fun n=>plainGet (Mine.KK P) 218 n && findIn (Mine.KK P) (.ref 218) n == some none)=true:=by kernel_rfl
  intro n hn
  have:=List.all_eq_true.mp h n hn
  simp only [Bool.and_eq_true,beq_iff_eq] at this
  exact this
theorem grp_set {w:World} {a:Addr} {l:List Nat} (G:GrpIs w.params a l):∃ o,(Mine.KK w.params).lookup a=some o∧o.SetObjOf (strKind pw w) (fun x=>decide (x∈l.map fun c=>(⟨#[c]⟩:Str))) l.length:=by
  obtain ⟨SS,tk,h1,⟨hp,hf⟩,_⟩:=G
  refine ⟨_,h1,⟨rfl,rfl,rfl⟩,SS.es,SS.ep,SS.t,rfl,fun e he=>?_,fun k=>?_,?_,hf⟩
  · obtain ⟨x,hx,rfl⟩:=List.mem_map.mp (hp.mem_iff.mp he)
    exact ⟨⟨⟨#[x.1]⟩,(isStrOf_self ⟨#[x.1]⟩ x.2 :),rfl⟩,rfl⟩
  · rw [decide_eq_true_iff]
    constructor
    · intro hk
      obtain ⟨ch,hc,rfl⟩:=List.mem_map.mp hk
      obtain ⟨i,hi,e⟩:=List.getElem_of_mem hc
      refine ⟨(PyData.keyHash w.params ⟨#[ch]⟩,.str ⟨#[ch]⟩ (tk+i)),hp.mem_iff.mpr (List.mem_map.mpr ⟨(ch,tk+i),?_,rfl⟩),(isStrOf_self ⟨#[ch]⟩ (tk+i) :)⟩
      rw [List.mk_mem_zipIdx_iff_le_and_getElem?_sub]
      refine ⟨Nat.le_add_right _ _,?_⟩
      rw [Nat.add_sub_cancel_left,List.getElem?_eq_getElem hi,e]
    · rintro ⟨e,he,hk⟩
      obtain ⟨x,hx,rfl⟩:=List.mem_map.mp (hp.mem_iff.mp he)
      have:k=⟨#[x.1]⟩:=by
        have hk':Value.isStrOf k (.str ⟨#[x.1]⟩ x.2)=true:=hk
        simp only [Value.isStrOf,beq_iff_eq] at hk'
        exact hk'.symm
      subst this
      obtain ⟨y,t⟩:=x
      rw [List.mk_mem_zipIdx_iff_le_and_getElem?_sub] at hx
      exact List.mem_map.mpr ⟨y,List.mem_of_getElem? hx.2,rfl⟩
  · have:=hp.length_eq
    simpa using this
theorem mem_one {l:List Nat} {ch:Nat}:decide (S [ch]∈l.map fun c=>(⟨#[c]⟩:Str))=decide (ch∈l):=by
  by_cases h:ch∈l
  · rw [decide_eq_true h,decide_eq_true_iff]
    exact List.mem_map.mpr ⟨ch,h,rfl⟩
  · rw [decide_eq_false h,decide_eq_false_iff_not]
    intro q
    obtain ⟨x,hx,e⟩:=List.mem_map.mp q
    have:x=ch:=by simpa [S] using e
    exact h (this▸hx)
theorem c_grp_in {ch:Nat} {l:List Nat} {r:Bool} (h:decide (ch∈l)=r):CmpOK .In (.str [ch]) (.grp l) r:=.mk fun c imm st V₁ V₂ s O I q₁ q₂ Q k=>by
  obtain ⟨t,rfl,_⟩:=q₁
  obtain ⟨a,rfl,G⟩:=q₂
  obtain ⟨g,m,mt,T,F,N,B,D,MO,ND,LO⟩:=I.ex
  obtain ⟨o,h1,h2⟩:=grp_set G
  obtain ⟨_,_,_,_,hb⟩:=G
  refine in_argsetS (w:=c.w) F h2 (Inv.X O B _ _ h1) hb ?_
  rw [mem_one,h]
  exact k _
theorem c_grp_nin {ch:Nat} {l:List Nat} {r:Bool} (h:decide (ch ∉ l)=r):CmpOK .NotIn (.str [ch]) (.grp l) r:=.mk fun c imm st V₁ V₂ s O I q₁ q₂ Q k=>by
  obtain ⟨t,rfl,_⟩:=q₁
  obtain ⟨a,rfl,G⟩:=q₂
  obtain ⟨g,m,mt,T,F,N,B,D,MO,ND,LO⟩:=I.ex
  obtain ⟨o,h1,h2⟩:=grp_set G
  obtain ⟨_,_,_,_,hb⟩:=G
  refine notin_argsetS (w:=c.w) F h2 (Inv.X O B _ _ h1) hb ?_
  rw [mem_one,show (!decide (ch∈l))=r from by rw [← h]; by_cases e:ch∈l <;> simp [e]]
  exact k _
theorem c_str_nin {ch:Nat} {l:T} {r:Bool} (h:decide (ch ∉ l)=r):CmpOK .NotIn (.str [ch]) (.str l) r:=.mk fun c imm st V₁ V₂ s O I q₁ q₂ Q k=>by
  obtain ⟨t,rfl,_⟩:=q₁
  obtain ⟨u,rfl,_⟩:=q₂
  refine P.notIn_str ?_
  have e:=StrLaws.found_one (S l) ch
  rw [lE] at e
  have e':(!(Builtin.Str.occurrences (S l) (S [ch]) 0 (S l).length 1).isEmpty)=decide (ch∈l):=e
  rw [e',show (!decide (ch∈l))=r from by rw [← h]; by_cases e:ch∈l <;> simp [e]]
  exact k s.toks
noncomputable def bU:Expr→Bool
  | .Starred ..=>false
  | _=>true
theorem aV {e:Expr} {rest:List Expr} {env:Env} (h:bU e=true):starEach (e::rest) env=(false,eval e env)::starEach rest env:=by
  cases e <;> first | rfl | cases h
section
variable {d:Nat} {sc:Scope} {st st₁ st₂ st₃ st':Sx}
theorem Ev.amg_s {o:Expr} {p:Pos} {e:T×Int×Int} (ho:Ev d sc o st (.amg e) st₁) (hl:e.1.length≤lim)
    (hz:∀ env:Env,eval (.Attribute o "s" p) env=(do
      let ov ← eval o env
      standAt p.atName
      let r ← holding [ov] (getAttr ov "s" true)
      letTemporaryGo o ov r
      pure r)):Ev d sc (.Attribute o "s" p) st (.str e.1) st₁ :=
  ho.attr (fun c imm V s expr O R hs I q=>by
    obtain ⟨a,rfl,dx,es,n,t1,t2,t3,h1,h2,e1,e2,e3⟩:=q
    obtain ⟨g,m,mt,T,F,N,B,D,MO,ND,LO⟩:=I.ex
    have X:c.K.In s.heap:=(Inv.X O B).keeps F.keep
    obtain ⟨k1,k2⟩:=k_amg c.P
    obtain ⟨q1,q2⟩:=k2 "s" (by simp)
    exact get_own F (Inv.X O B) (PySem.W.InstAt.of_K X h1 h2) q1 k1 q2 rfl e1 rfl (eJ I (.str_ _ hl) _)) hz
theorem Ev.amg_i {o:Expr} {p:Pos} {e:T×Int×Int} (ho:Ev d sc o st (.amg e) st₁)
    (hz:∀ env:Env,eval (.Attribute o "substring_i" p) env=(do
      let ov ← eval o env
      standAt p.atName
      let r ← holding [ov] (getAttr ov "substring_i" true)
      letTemporaryGo o ov r
      pure r)):Ev d sc (.Attribute o "substring_i" p) st (.int e.2.1) st₁ :=
  ho.attr (fun c imm V s expr O R hs I q=>by
    obtain ⟨a,rfl,dx,es,n,t1,t2,t3,h1,h2,e1,e2,e3⟩:=q
    obtain ⟨g,m,mt,T,F,N,B,D,MO,ND,LO⟩:=I.ex
    have X:c.K.In s.heap:=(Inv.X O B).keeps F.keep
    obtain ⟨k1,k2⟩:=k_amg c.P
    obtain ⟨q1,q2⟩:=k2 "substring_i" (by simp)
    exact get_own F (Inv.X O B) (PySem.W.InstAt.of_K X h1 h2) q1 k1 q2 rfl e2 rfl (eJ I (.int_ _) _)) hz
theorem Ev.amg_r {o:Expr} {p:Pos} {e:T×Int×Int} (ho:Ev d sc o st (.amg e) st₁)
    (hz:∀ env:Env,eval (.Attribute o "result" p) env=(do
      let ov ← eval o env
      standAt p.atName
      let r ← holding [ov] (getAttr ov "result" true)
      letTemporaryGo o ov r
      pure r)):Ev d sc (.Attribute o "result" p) st (.int e.2.2) st₁ :=
  ho.attr (fun c imm V s expr O R hs I q=>by
    obtain ⟨a,rfl,dx,es,n,t1,t2,t3,h1,h2,e1,e2,e3⟩:=q
    obtain ⟨g,m,mt,T,F,N,B,D,MO,ND,LO⟩:=I.ex
    have X:c.K.In s.heap:=(Inv.X O B).keeps F.keep
    obtain ⟨k1,k2⟩:=k_amg c.P
    obtain ⟨q1,q2⟩:=k2 "result" (by simp)
    exact get_own F (Inv.X O B) (PySem.W.InstAt.of_K X h1 h2) q1 k1 q2 rfl e3 rfl (eJ I (.int_ _) _)) hz
theorem iX {c:Cx} {imm:List (Addr×Obj)} {s:Shared} (O:CxOK c) (I:Inv c imm st s) {x:Str} {p:Pos} {V:Value} {Q:Value→Shared→Prop} {E:Value→Shared→Prop} (e:nsIn c.K mainGlobals x=some none) (hv:bootBuiltins x=some V)
    (hn:x ≠ "__name__") (hl:c.scope.names.lookup x=some .globalImplicit) (hd:(x == ("__debug__" : Str))=false) (h:Q V s):wpAny c.M c.A (eval (.Name x p) c.env) Q E s:=by
  obtain ⟨g,m,mt,T,F,N,B,D,MO,ND,LO⟩:=I.ex
  exact name_B F (Inv.X O B) (Inv.TR O B) e hv hn h O.kind hl hd
theorem k_len (P:Params):nsIn (Mine.KK P) mainGlobals "len" = some none:=by kernel_rfl
theorem k_min (P:Params):nsIn (Mine.KK P) mainGlobals "min" = some none:=by kernel_rfl
theorem k_ord (P:Params):nsIn (Mine.KK P) mainGlobals "ord" = some none:=by kernel_rfl
theorem k_range (P:Params):nsIn (Mine.KK P) mainGlobals "range" = some none:=by kernel_rfl
theorem Ev.call1 {f:Str} {id:String} {pf p:Pos} {e:Expr} {v v':SV} (hf:∀ P:Params,nsIn (Mine.KK P) mainGlobals f=some none) (hb:bootBuiltins f=some (.builtin id)) (hn:f ≠ "__name__") (hd:(f == ("__debug__" : Str))=false)
    (hl:sc.names.lookup f=some .globalImplicit) (he:Ev d sc e st v st₁)
    (k:∀ c imm V s,CxOK c→Inv c imm st₁ s→VR c.P imm v V→wpAny (model pw c.w) c.A (call (.builtin id) [V]) (QV c imm st₁ v') NoE s) (hs:bU e=true:=by rfl) :
    Ev d sc (.Call (.Name f pf) [e] [] p) st v' st₁:=.mk fun c imm s O R hc I=>by
  refine Call_ (iX O I (hf _) hb hn (hc▸hl) hd (callWith_builtin1 (args_cons ?_ (aV hs)) (aV hs)))
  exact he.use O R hc I fun V s' imm' x I' q=>args_nil (wpAny_mono (k c imm' V s' O I' q) (fun _ _=>cJ x) fun _ _ f=>f.elim)
theorem Ev.len {pf p:Pos} {e:Expr} {x:T} (hl:sc.names.lookup ("len" : Str)=some .globalImplicit) (he:Ev d sc e st (.str x) st₁) (hs:bU e=true:=by rfl):Ev d sc (.Call (.Name "len" pf) [e] [] p) st (.int x.length) st₁ :=
  .call1 k_len boot_len (by decide) (by decide) hl he (fun c imm V s O I q=>by
    obtain ⟨t,rfl,hx⟩:=q
    have hx':x.length≤65536:=hx
    refine P.len_str (by rw [cD]; lia) ?_
    rw [cD]
    exact eJ I (.int_ _) _) hs
theorem Ev.ord {pf p:Pos} {e:Expr} {ch:Nat} (hl:sc.names.lookup ("ord" : Str)=some .globalImplicit) (he:Ev d sc e st (.str [ch]) st₁) (hs:bU e=true:=by rfl):Ev d sc (.Call (.Name "ord" pf) [e] [] p) st (.int ch) st₁ :=
  .call1 k_ord boot_ord (by decide) (by decide) hl he (fun c imm V s O I q=>by
    obtain ⟨t,rfl,hx⟩:=q
    exact P.ord_of_char (eJ I (.int_ _) _)) hs
theorem Ev.min {pf p:Pos} {e e':Expr} {a b:Int} (hl:sc.names.lookup ("min" : Str)=some .globalImplicit) (he:Ev d sc e st (.int a) st₁) (he':Ev d sc e' st₁ (.int b) st₂) (hs:bU e=true:=by rfl) (hs':bU e'=true:=by rfl) :
    Ev d sc (.Call (.Name "min" pf) [e,e'] [] p) st (.int (if b < a then b else a)) st₂:=.mk fun c imm s O R hc I=>by
  refine Call_ (iX O I (k_min _) boot_min (by decide) (hc▸hl) (by decide) (PyProof.Rows.callWith_builtin1 (args_cons ?_ (aV hs)) (aV hs) (by rw [aV hs']; rfl)))
  refine he.use O R hc I fun V₁ s₁ imm₁ x₁ I₁ q₁=>args_cons ?_ (aV hs')
  refine he'.use O R hc I₁ fun V₂ s₂ imm₂ x₂ I₂ q₂=>args_nil ?_
  obtain ⟨t,rfl⟩:=q₁
  obtain ⟨u,rfl⟩:=q₂
  refine min_two_ints O.handled fun h' tk kp=>?_
  refine ⟨imm₂,x₁.trans x₂,I₂.keeps kp tk,?_⟩
  by_cases h:b < a
  · rw [if_pos h,if_pos h]; exact .int_ _
  · rw [if_neg h,if_neg h]; exact .int_ _
noncomputable def nV (o:Expr) (n:Str) (ap:Pos) (args:List Expr) (p:Pos):Prop:=∀ env:Env,∃ pl:Sem Bool,eval (.Call (.Attribute o n ap) args [] p) env=(do
      let ov ← eval o env
      standAt ap.atName
      let (f,first) ← holding [ov] (getMethod ov n pl)
      callWith p f first (backTo p (starEach args env)) [])
theorem Ev.starts {o e:Expr} {ap p:Pos} {x y:T} {r:Bool} (ho:Ev d sc o st (.str x) st₁) (he:Ev d sc e st₁ (.str y) st₂) (h:decide (x.take y.length=y)=r) (hz:nV o "startswith" ap [e] p) (hs:bU e=true:=by rfl) :
    Ev d sc (.Call (.Attribute o "startswith" ap) [e] [] p) st (.bool r) st₂:=.mk fun c imm s O R hc I=>by
  obtain ⟨pl,hz⟩:=hz c.env
  refine MethodCall_ ?_ hz
  refine ho.use O R hc I fun V₁ s₁ imm₁ x₁ I₁ q₁=>?_
  obtain ⟨t,rfl,_⟩:=q₁
  refine GM.startswith (callWith_method1 (args_cons ?_ (aV hs)) (aV hs))
  refine he.use O R hc I₁ fun V₂ s₂ imm₂ x₂ I₂ q₂=>args_nil ?_
  obtain ⟨u,rfl,_⟩:=q₂
  refine SC.startswith ?_
  rw [starts_S,h]
  exact cJ (x₁.trans x₂) (jQ I₂ .bool_)
theorem Ev.ends {o e:Expr} {ap p:Pos} {x y:T} {r:Bool} (ho:Ev d sc o st (.str x) st₁) (he:Ev d sc e st₁ (.str y) st₂) (h:decide (y.length≤x.length∧x.drop (x.length - y.length)=y)=r) (hz:nV o "endswith" ap [e] p) (hs:bU e=true:=by rfl) :
    Ev d sc (.Call (.Attribute o "endswith" ap) [e] [] p) st (.bool r) st₂:=.mk fun c imm s O R hc I=>by
  obtain ⟨pl,hz⟩:=hz c.env
  refine MethodCall_ ?_ hz
  refine ho.use O R hc I fun V₁ s₁ imm₁ x₁ I₁ q₁=>?_
  obtain ⟨t,rfl,_⟩:=q₁
  refine GM.endswith (callWith_method1 (args_cons ?_ (aV hs)) (aV hs))
  refine he.use O R hc I₁ fun V₂ s₂ imm₂ x₂ I₂ q₂=>args_nil ?_
  obtain ⟨u,rfl,_⟩:=q₂
  refine SC.endswith ?_
  rw [ends_S,h]
  exact cJ (x₁.trans x₂) (jQ I₂ .bool_)
end
noncomputable abbrev Be:=@Ev.len
noncomputable abbrev Bk:=@Ev.amg_s
inductive Fl where
  | next | brk | cont | ret (v:SV) | exc (C:Addr)
noncomputable def QI (c:Cx) (imm:List (Addr×Obj)) (st:Sx) (s:Shared):Prop:=∃ imm',Ext imm imm'∧Inv c imm' st s
noncomputable def QF (c:Cx) (imm:List (Addr×Obj)) (st:Sx) (fl:Fl):Flow→Shared→Prop:=fun F s'=>match fl with
  | .next=>F=.next∧QI c imm st s'
  | .brk=>F=.brk∧QI c imm st s'
  | .cont=>F=.cont∧QI c imm st s'
  | .ret v=>∃ V,F=.ret V∧QV c imm st v V s'
  | .exc _=>False
noncomputable def EF (c:Cx) (imm:List (Addr×Obj)) (st:Sx) (fl:Fl):Value→Shared→Prop:=fun e s'=>match fl with
  | .exc C=>∃ imm',Ext imm imm'∧Fly c imm' st C e s'
  | _=>False
theorem qi_ext {c:Cx} {imm imm':List (Addr×Obj)} {st:Sx} {s:Shared} (h:Ext imm imm') (q:QI c imm' st s):QI c imm st s:=by
  obtain ⟨i,a,b⟩:=q
  exact ⟨i,h.trans a,b⟩
theorem qf_ext {c:Cx} {imm imm':List (Addr×Obj)} {st:Sx} {fl:Fl} (h:Ext imm imm') {F:Flow} {s:Shared} (q:QF c imm' st fl F s):QF c imm st fl F s:=by
  cases fl with
  | next=>exact ⟨q.1,qi_ext h q.2⟩
  | brk=>exact ⟨q.1,qi_ext h q.2⟩
  | cont=>exact ⟨q.1,qi_ext h q.2⟩
  | ret v=>obtain ⟨V,a,b⟩:=q; exact ⟨V,a,cJ h b⟩
  | exc C=>exact q
theorem ef_ext {c:Cx} {imm imm':List (Addr×Obj)} {st:Sx} {fl:Fl} (h:Ext imm imm') {F:Value} {s:Shared} (q:EF c imm' st fl F s):EF c imm st fl F s:=by
  cases fl with
  | exc C=>obtain ⟨i,a,b⟩:=q; exact ⟨i,h.trans a,b⟩
  | _=>exact q
theorem gS {c:Cx} (O:CxOK c) (imm:List (Addr×Obj)) (st:Sx) (fl:Fl):PassesOwn c.M c.A c.env (EF c imm st fl):=fun e s q=>by
  cases fl with
  | exc C =>
    obtain ⟨i,a,b⟩:=q
    exact wpAny_mono (passes_fly O e s b) (fun _ s' h=>wpAny_mono h (fun _ s'' h'=>⟨i,a,h'⟩) fun _ s'' h'=>⟨i,a,h'⟩) fun _ s' h=>wpAny_mono h (fun _ s'' h'=>⟨i,a,h'⟩) fun _ s'' h'=>⟨i,a,h'⟩
  | _=>exact q.elim
structure Ex (d:Nat) (sc:Scope) (t:Stmt) (st:Sx) (fl:Fl) (st':Sx):Prop where
  run:∀ (c:Cx) (imm:List (Addr×Obj)) (s:Shared),CxOK c→Room c d→c.scope=sc→Inv c imm st s→wpAny c.M c.A (exec t c.env) (QF c imm st' fl) (EF c imm st' fl) s
structure Exs (d:Nat) (sc:Scope) (l:List Stmt) (st:Sx) (fl:Fl) (st':Sx):Prop where
  run:∀ (c:Cx) (imm:List (Addr×Obj)) (s:Shared),CxOK c→Room c d→c.scope=sc→Inv c imm st s→wpAny c.M c.A (execs l c.env) (QF c imm st' fl) (EF c imm st' fl) s
section
variable {c:Cx} {imm:List (Addr×Obj)} {st:Sx} {s:Shared} {E:Value→Shared→Prop}
theorem dH (O:CxOK c) (I:Inv c imm st s) {x:Str} {v:SV} {V:Value} (hv:VR c.P imm v V) (hl:c.scope.names.lookup x=some .local) {Q:Unit→Shared→Prop}
    (h:∀ s',Inv c imm { st with loc:=putF x v st.loc } s'→Q () s'):wpAny c.M c.A (storeName c.env x V) Q E s:=by
  obtain ⟨g,m,mt,T,F,N,B,D,MO,ND,LO⟩:=I.ex
  exact stN F N (fun h' F' N'=>h _ ⟨I.sh,g,_,mt,T,F',N',B,D,MO,ND,LO.put hv⟩) O.kind hl
theorem k_set (P:Params):findIn (Mine.KK P) (.ref 672) "__setattr__" = some (some (.builtin "object.__setattr__"))∧plainOver (Mine.KK P) 672=true:=⟨by kernel_rfl,by kernel_rfl⟩
theorem k_taker (P:Params):∀ n∈fieldNames,takerIn (Mine.KK P) 672 n=some none:=by
  have h:(fieldNames.all fun n=>takerIn (Mine.KK P) 672 n == some none)=true:=by kernel_rfl
  intro n hn
  have:=List.all_eq_true.mp h n hn
  simpa using this
theorem mS (O:CxOK c) (I:Inv c imm st s) {n:Str} {x dx:Addr} {fl:Loc} {v:SV} {V:Value} (hf:st.f=.some (x,dx,fl)) (hn:n∈fieldNames) (hv:VR c.P [] v V) (hlen:fl.length≤50) {Q:Unit→Shared→Prop}
    (h:∀ s',Inv c imm { st with f:=.some (x,dx,putF n v fl) } s'→Q () s'):wpAny c.M c.A (setAttr (.ref x) n V) Q E s:=by
  obtain ⟨g,m,mt,T,F,N,B,D,MO,ND,LO⟩:=I.ex
  obtain ⟨es,k,rfl,FO,_,IA⟩:=nJ hf N MO
  have hel:es.length=fl.length:=FO.length
  have hp:=mT n (PyData.keyHash c.w.params n) (.str n (s.toks+1)) V es
  simp only [List.cons_append,List.nil_append,List.map_cons,List.nodup_cons,List.mem_cons,not_or] at ND
  have ND0:=ND
  obtain ⟨⟨hxd,hx⟩,hd,hr⟩:=ND
  refine set_dict F (Inv.X O B) N IA rfl (k_set _).1 (k_set _).2 (k_taker _ n hn) (k_hasDict _) (FO.isSome n) rfl (.tail hxd (.head fun p hp q=>hd (q▸List.mem_map_of_mem hp))) (by lia) fun h' F' N'=>?_
  refine h _ ⟨I.sh,g,m,[(x,instObj 672 dx),(dx,dictOf (putL n (PyData.keyHash c.w.params n) (.str n (s.toks+1)) V es) (putN n es k))],T,F',N',B,D,?_,?_,LO⟩
  · exact ⟨_,_,rfl,FO.put n _ _ hv,by lia⟩
  · simp only [List.cons_append,List.nil_append,List.map_cons,List.nodup_cons,List.mem_cons,not_or]
    exact ND0
end
section
variable {d:Nat} {sc:Scope} {st st₁ st₂ st₃ st':Sx} {fl:Fl}
theorem Exs.use {l:List Stmt} (h:Exs d sc l st fl st') {c:Cx} {imm imm₀:List (Addr×Obj)} {s:Shared} (O:CxOK c) (R:Room c d) (hs:c.scope=sc) (x:Ext imm₀ imm) (I:Inv c imm st s) :
    wpAny c.M c.A (execs l c.env) (QF c imm₀ st' fl) (EF c imm₀ st' fl) s:=wpAny_mono (h.run c imm s O R hs I) (fun _ _=>qf_ext x) fun _ _=>ef_ext x
theorem Exs.nil:Exs d sc [] st .next st:=.mk fun c imm s O R hs I=>wpAny_execs_nil ⟨rfl,imm,.refl,I⟩
theorem Exs.cons {t:Stmt} {l:List Stmt} (h:Ex d sc t st .next st₁) (h':Exs d sc l st₁ fl st'):Exs d sc (t::l) st fl st':=.mk fun c imm s O R hs I =>
  wpAny_execs_cons (wpAny_mono (h.run c imm s O R hs I) (fun F s' q=>by
    obtain ⟨rfl,imm',x,I'⟩:=q
    exact h'.use O R hs x I') fun _ _ q=>q.elim)
theorem Exs.stop {t:Stmt} {l:List Stmt} (h:Ex d sc t st fl st') (hn:fl≠.next):Exs d sc (t::l) st fl st':=.mk fun c imm s O R hs I =>
  wpAny_execs_cons (wpAny_mono (h.run c imm s O R hs I) (fun F s' q=>by
    cases fl with
    | next=>exact (hn rfl).elim
    | brk=>obtain ⟨rfl,q⟩:=q; exact ⟨rfl,q⟩
    | cont=>obtain ⟨rfl,q⟩:=q; exact ⟨rfl,q⟩
    | ret v=>obtain ⟨V,rfl,q⟩:=q; exact ⟨V,rfl,q⟩
    | exc C=>exact q.elim) fun _ _ q=>q)
theorem Ex.brk {p:Pos}:Ex d sc (.Break p) st .brk st:=.mk fun c imm s O R hs I=>wpAny_Break ⟨rfl,imm,.refl,I⟩
theorem Ex.cont {p:Pos}:Ex d sc (.Continue p) st .cont st:=.mk fun c imm s O R hs I=>wpAny_Continue ⟨rfl,imm,.refl,I⟩
theorem Ex.ret {e:Expr} {p:Pos} {v:SV} (h:Ev d sc e st v st'):Ex d sc (.Return (some e) p) st (.ret v) st':=.mk fun c imm s O R hs I =>
  wpAny_Return_some (h.use O R hs I fun V s' imm' x I' q=>⟨V,rfl,imm',x,I',q⟩)
theorem Ex.ifT {t:Expr} {b o:List Stmt} {p:Pos} (h:Tst d sc t st true st₁) (hb:Exs d sc b st₁ fl st'):Ex d sc (.If t b o p) st fl st':=.mk fun c imm s O R hs I =>
  wpAny_If (h.use O R hs I fun s' imm' x I'=>by
    rw [if_pos rfl]
    exact hb.use O R hs x I')
theorem Ex.ifF {t:Expr} {b o:List Stmt} {p:Pos} (h:Tst d sc t st false st₁) (hb:Exs d sc o st₁ fl st'):Ex d sc (.If t b o p) st fl st':=.mk fun c imm s O R hs I =>
  wpAny_If (h.use O R hs I fun s' imm' x I'=>by
    rw [if_neg (by decide)]
    exact hb.use O R hs x I')
theorem Ex.assert_ {t:Expr} {m:Option Expr} {p:Pos} (h:Tst d sc t st true st'):Ex d sc (.Assert t m p) st .next st':=.mk fun c imm s O R hs I =>
  wpAny_Assert_holds (h.use O R hs I fun s' imm' x I'=>⟨rfl,rfl,imm',x,I'⟩)
theorem Ex.setL {x:Str} {px p:Pos} {e:Expr} {v:SV} (h:Ev d sc e st v st₁) (hl:sc.names.lookup x=some .local) (hs:∀ env:Env,swapsWith e (some (.Name x px)) p.line env=pure false) :
    Ex d sc (.Assign [.Name x px] e p) st .next { st₁ with loc:=putF x v st₁.loc }:=.mk fun c imm s O R hc I =>
  wpAny_Assign_Name (h.use O R hc I fun V s' imm' x' I' q=>dH O I' q (hc▸hl) fun s'' I''=>⟨rfl,imm',x',I''⟩) (hs _)
theorem Ex.setF {o:Expr} {n:Str} {po p:Pos} {e:Expr} {v:SV} {x dx:Addr} {fs:Loc} (h:Ev d sc e st v st₁) (ho:Ev d sc o st₁ (.self x) st₂) (hf:st₂.f=.some (x,dx,fs)) (hn:n∈fieldNames) (hlen:fs.length≤50)
    (hv:∀ P imm V,VR P imm v V→VR P [] v V) (hs:∀ env:Env,swapsWith e (some (.Attribute o n po)) p.line env=pure false) :
    Ex d sc (.Assign [.Attribute o n po] e p) st .next { st₂ with f:=.some (x,dx,putF n v fs) }:=.mk fun c imm s O R hc I =>
  plainObj_wpAny_Assign_Attribute (h.use O R hc I fun V s' imm' x' I' q=>ho.use O R hc I' fun V₂ s₂ imm₂ x₂ I₂ q₂=>by
    cases q₂
    exact mS O I₂ hf hn (hv _ _ _ q) hlen fun s'' I''=>⟨rfl,imm₂,x'.trans x₂,I''⟩) (hs _)
theorem Ex.augL {x:Str} {px p:Pos} {e:Expr} {op:Operator} {a b:Int} (hop:op=.Add∨op=.Sub) (hx:st.loc.lookup x=some (.int a)) (h:Ev d sc e st (.int b) st₁) (hl:sc.names.lookup x=some .local) :
    Ex d sc (.AugAssign (.Name x px) op e p) st .next { st₁ with loc:=putF x (.int (if op=.Add then a+b else a - b)) st₁.loc }:=.mk fun c imm s O R hc I=>by
  refine wpAny_AugAssign_Name ?_
  obtain ⟨g,m,mt,T,F,N,B,D,MO,ND,LO⟩:=I.ex
  obtain ⟨V,h1,t,rfl⟩:=LO x _ hx
  refine ldn F h1 ?_ O.kind (hc▸hl)
  refine h.use O R hc I fun V s' imm' x' I' q=>?_
  obtain ⟨u,rfl⟩:=q
  rcases hop with rfl | rfl
  · exact P.iadd_int (dH O (I'.tok _) (by rw [if_pos rfl]; exact .int_ _) (hc▸hl) fun s'' I''=>⟨rfl,imm',x',I''⟩)
  · exact P.isub_int (dH O (I'.tok _) (by rw [if_neg (by decide)]; exact .int_ _) (hc▸hl) fun s'' I''=>⟨rfl,imm',x',I''⟩)
theorem Ex.augF {y n:Str} {py po p:Pos} {e:Expr} {op:Operator} {a b:Int} {x dx:Addr} {fs fs':Loc} (hop:op=.Add∨op=.Sub) (ho:Ev d sc (.Name y py) st (.self x) st₁) (hf:st₁.f=.some (x,dx,fs)) (hn:n∈fieldNames) (hx:fs.lookup n=some (.int a))
    (h:Ev d sc e st₁ (.int b) st₂) (hf':st₂.f=.some (x,dx,fs')) (hlen:fs'.length≤50) :
    Ex d sc (.AugAssign (.Attribute (.Name y py) n po) op e p) st .next { st₂ with f:=.some (x,dx,putF n (.int (if op=.Add then a+b else a - b)) fs') }:=.mk fun c imm s O R hc I=>by
  rw [show exec (.AugAssign (.Attribute (.Name y py) n po) op e p) c.env=_ from arm_exec_AugAssign_2 _ _ _ _ _ _ _]
  refine wpAny_bind (wpAny_standAt (wpAny_bind ?_))
  refine ho.use O R hc I fun V₁ s₁ imm₁ x₁ I₁ q₁=>?_
  cases q₁
  refine wpAny_bind (wpAny_holding (wpAny_bind (wpAny_standAt (wpAny_bind ?_))))
  refine wpAny_mono (a_field O I₁ hf hn hx) (fun V₂ s₂ q₂=>?_) fun _ _ f=>f.elim
  obtain ⟨imm₂,x₂,I₂,u,rfl⟩:=q₂
  refine wpAny_bind (wpAny_holding ?_)
  refine h.use O R hc I₂ fun V₃ s₃ imm₃ x₃ I₃ q₃=>?_
  obtain ⟨u',rfl⟩:=q₃
  have fin:∀ n' r,r=(if op=.Add then a+b else a - b)→wpAny c.M c.A (do
      standAt po.atName
      holding [.int r n',.ref x] (setAttr (.ref x) n (.int r n'))
      release [.int r n',.ref x] []
      pure .next) (QF c imm { st₂ with f:=.some (x,dx,putF n (.int (if op=.Add then a+b else a - b)) fs') } .next) (EF c imm { st₂ with f:=.some (x,dx,putF n (.int (if op=.Add then a+b else a - b)) fs') } .next) { s₃ with toks:=s₃.toks+1 }:=fun n' r hr=>by
    refine wpAny_bind (wpAny_standAt (wpAny_bind (wpAny_holding ?_)))
    refine mS O (I₃.tok _) hf' hn (v:=.int (if op=.Add then a+b else a - b)) (hr▸.int_ _) hlen fun s'' I''=>?_
    exact wpAny_bind (wpAny_release (wpAny_pure ⟨rfl,imm₃,(x₁.trans x₂).trans x₃,I''⟩))
  refine wpAny_bind (wpAny_standAt (wpAny_operating ?_))
  rcases hop with rfl | rfl
  · exact P.iadd_int (fin _ _ (by rw [if_pos rfl]))
  · exact P.isub_int (fin _ _ (by rw [if_neg (by decide)]))
end
noncomputable abbrev Aa:=@Exs.cons
noncomputable abbrev Ab:=@Exs.stop
noncomputable abbrev Ad:=@Exs.nil
noncomputable abbrev Af:=@Ex.ifF
noncomputable abbrev Ak:=@Ex.ifT
noncomputable abbrev Am:=@Ex.setL
noncomputable abbrev Ax:=@Ex.ret
noncomputable abbrev Bq:=@Ex.brk
noncomputable abbrev Bx:=@Ex.setF
noncomputable abbrev Cj:=@Ex.cont
noncomputable def plainV:SV→Bool
  | .none | .bool _ | .int _ | .str _=>true
  | _=>false
section
variable {d:Nat} {sc:Scope} {st st₁ st₂ st₃ st':Sx} {fl:Fl}
theorem plain_noref {P:Params} {imm:List (Addr×Obj)} {v:SV} {V:Value} (hv:plainV v=true) (q:VR P imm v V):∀ a,V≠.ref a:=by
  intro a e
  subst e
  cases v with
  | none=>cases q
  | bool b=>cases q
  | int i=>obtain ⟨t,e⟩:=q; cases e
  | str i=>obtain ⟨t,e,_⟩:=q; cases e
  | self x=>cases hv
  | cls=>cases hv
  | tab t=>cases hv
  | amg e=>cases hv
  | grp l=>cases hv
  | _=>cases hv
theorem Ex.expr {e:Expr} {p:Pos} {v:SV} (h:Ev d sc e st v st') (hv:plainV v=true) (hs:∀ env:Env,swapsWith e Option.none p.line env=pure false):Ex d sc (.Expr e p) st .next st':=.mk fun c imm s O R hc I=>by
  refine wpAny_Expr (h.use O R hc I fun V s' imm' x I' q=>?_) (by show (c.scope.kind == .module && _)=false; rw [O.kind]; rfl) (hs _)
  have hr:=plain_noref hv q
  split
  · exact hr _ rfl
  · exact ⟨rfl,imm',x,I'⟩
theorem Ex.tryOk {body:List Stmt} {h₀:ExceptHandler} {hs:List ExceptHandler} {p:Pos} (h:Exs d sc body st fl st') (hn:∀ C,fl≠.exc C):Ex d sc (.Try body (h₀::hs) [] [] p) st fl st':=.mk fun c imm s O R hc I =>
  wpAny_Try_except (wpAny_mono (h.run c imm s O R hc I) (fun F s' q=>by
    cases fl with
    | next=>obtain ⟨rfl,q⟩:=q; exact wpAny_execs_nil ⟨rfl,q⟩
    | brk=>obtain ⟨rfl,q⟩:=q; exact ⟨rfl,q⟩
    | cont=>obtain ⟨rfl,q⟩:=q; exact ⟨rfl,q⟩
    | ret v=>obtain ⟨V,rfl,q⟩:=q; exact ⟨V,rfl,q⟩
    | exc C=>exact q.elim) fun e s' q=>by
    cases fl with
    | exc C=>exact (hn C rfl).elim
    | _=>exact q.elim)
theorem Ex.tryC {body:List Stmt} {x:Str} {np pp hp p:Pos} {C:Addr} (h:Exs d sc body st (.exc C) st') (hx:sc.names.lookup x=some .globalImplicit) (hd:(x == ("__debug__" : Str))=false)
    (ex:∀ P:Params,nsIn (Mine.KK P) mainGlobals x=some (some (.ref C))) (q:∀ P:Params,ktsIn (Mine.KK P) C "BaseException" = true) :
    Ex d sc (.Try body [.ExceptHandler (some (.Name x np)) Option.none [.Pass pp] hp] [] [] p) st .next st':=.mk fun c imm s O R hc I =>
  wpAny_Try_except (wpAny_mono (h.run c imm s O R hc I) (fun F s' q=>q.elim) fun e s' q'=>by
    obtain ⟨imm',x',Fl⟩:=q'
    have hk:=e_caught O (np:=np) (pp:=pp) (pos:=hp) (hc▸hx) hd (ex c.P) (q c.P) Fl
    refine wpAny_mono hk (fun _ s₂ h₂=>?_) fun _ _ f=>f.elim
    refine wpAny_mono h₂ (fun _ s₃ h₃=>?_) fun _ _ f=>f.elim
    refine wpAny_mono h₃ (fun F s₄ h₄=>?_) fun _ _ f=>f.elim
    exact ⟨h₄.1,imm',x',h₄.2⟩)
theorem Ex.raise {x:Str} {np cp p:Pos} {C:Addr} {bm:List Value} {newId:String} {initId:String} {B:String} (FB:ExcBaseFacts B newId initId bm) (hx:sc.names.lookup x=some .globalImplicit) (hd:(x == ("__debug__" : Str))=false)
    (ex:∀ P:Params,nsIn (Mine.KK P) mainGlobals x=some (some (.ref C))) (q:∀ P:Params,excIn (Mine.KK P) C bm newId=true) :
    Ex d sc (.Raise (some (.Call (.Name x np) [] [] cp)) Option.none p) st (.exc C) st:=.mk fun c imm s O R hc I=>by
  obtain ⟨g,m,mt,T,F,N,BB,D,MO,ND,LO⟩:=id I.ex
  refine Raise_own0 F (Inv.TR O BB).g (own_of_in (Inv.X O BB) (Inv.TR O BB) (ex c.P) (q c.P)) FB O.handled (fun h' e M=>?_) O.kind (hc▸hx) hd
  exact ⟨imm,.refl,.raw s.heap I M⟩
structure Whl (d:Nat) (sc:Scope) (test:Expr) (body:List Stmt) (st:Sx) (fl:Fl) (st':Sx):Prop where
  run:∀ (c:Cx) (imm₀ imm:List (Addr×Obj)) (s:Shared),CxOK c→Room c d→c.scope=sc→Ext imm₀ imm→Inv c imm st s →
  ∀ k,WhlRest pw c.w c.A (EF c imm₀ st' fl) c.env test body [] (QF c imm₀ st' fl) k s
theorem Whl.ff {test:Expr} {body:List Stmt} (h:Tst d sc test st false st'):Whl d sc test body st .next st':=.mk fun c imm₀ imm s O R hc x I k=>by
  refine whl_turn (k:=0) (gS O _ _ _) ?_
  exact h.use O R hc I fun s' imm' x' I'=>WhlIf.no rfl (wpAny_execs_nil ⟨rfl,imm',x.trans x',I'⟩)
theorem Whl.step {test:Expr} {body:List Stmt} {f₁:Fl} (h:Tst d sc test st true st₁) (hb:Exs d sc body st₁ f₁ st₂) (hf:f₁=.next∨f₁=.cont) (hr:Whl d sc test body st₂ fl st'):Whl d sc test body st fl st':=.mk fun c imm₀ imm s O R hc x I k=>by
  refine whl_turn (k:=0) (gS O _ _ _) ?_
  refine h.use O R hc I fun s' imm' x' I'=>WhlIf.yes rfl ?_
  refine wpAny_mono (hb.run c imm' s' O R hc I') (fun F s₂ q=>?_) fun e s₂ q=>?_
  · rcases hf with rfl | rfl
    · obtain ⟨rfl,imm₂,x₂,I₂⟩:=q
      exact hr.run c imm₀ imm₂ s₂ O R hc ((x.trans x').trans x₂) I₂ 0
    · obtain ⟨rfl,imm₂,x₂,I₂⟩:=q
      exact hr.run c imm₀ imm₂ s₂ O R hc ((x.trans x').trans x₂) I₂ 0
  · rcases hf with rfl | rfl <;> exact q.elim
theorem Whl.brk {test:Expr} {body:List Stmt} (h:Tst d sc test st true st₁) (hb:Exs d sc body st₁ .brk st'):Whl d sc test body st .next st':=.mk fun c imm₀ imm s O R hc x I k=>by
  refine whl_turn (k:=0) (gS O _ _ _) ?_
  refine h.use O R hc I fun s' imm' x' I'=>WhlIf.yes rfl ?_
  refine wpAny_mono (hb.run c imm' s' O R hc I') (fun F s₂ q=>?_) fun e s₂ q=>q.elim
  obtain ⟨rfl,q⟩:=q
  exact ⟨rfl,qi_ext (x.trans x') q⟩
theorem Whl.ret {test:Expr} {body:List Stmt} {v:SV} (h:Tst d sc test st true st₁) (hb:Exs d sc body st₁ (.ret v) st'):Whl d sc test body st (.ret v) st':=.mk fun c imm₀ imm s O R hc x I k=>by
  refine whl_turn (k:=0) (gS O _ _ _) ?_
  refine h.use O R hc I fun s' imm' x' I'=>WhlIf.yes rfl ?_
  refine wpAny_mono (hb.run c imm' s' O R hc I') (fun F s₂ q=>?_) fun e s₂ q=>q.elim
  obtain ⟨V,rfl,q⟩:=q
  exact ⟨V,rfl,cJ (x.trans x') q⟩
theorem Whl.exc {test:Expr} {body:List Stmt} {C:Addr} (h:Tst d sc test st true st₁) (hb:Exs d sc body st₁ (.exc C) st'):Whl d sc test body st (.exc C) st':=.mk fun c imm₀ imm s O R hc x I k=>by
  refine whl_turn (k:=0) (gS O _ _ _) ?_
  refine h.use O R hc I fun s' imm' x' I'=>WhlIf.yes rfl ?_
  exact wpAny_mono (hb.run c imm' s' O R hc I') (fun F s₂ q=>q.elim) fun e s₂ q=>ef_ext (fl:=.exc C) (x.trans x') q
theorem Ex.while_ {test:Expr} {body:List Stmt} {p:Pos} (h:Whl d sc test body st fl st'):Ex d sc (.While test body [] p) st fl st':=.mk fun c imm s O R hc I =>
  whl_start 0 (h.run c imm imm s O R hc .refl I 0)
theorem Inv.weak {c:Cx} {imm:List (Addr×Obj)} {s:Shared} {l:Loc} (I:Inv c imm st s) (h:∀ x v,l.lookup x=some v→st.loc.lookup x=some v):Inv c imm { st with loc:=l } s:=by
  obtain ⟨g,m,mt,T,F,N,B,D,MO,ND,LO⟩:=I.ex
  exact ⟨I.sh,g,m,mt,T,F,N,B,D,MO,ND,fun x v e=>LO x v (h x v e)⟩
theorem Exs.weak {b:List Stmt} {l:Loc} (h:∀ x v,l.lookup x=some v→st.loc.lookup x=some v) (hw:Exs d sc b { st with loc:=l } fl st'):Exs d sc b st fl st':=.mk fun c imm s O R hc I =>
  hw.run c imm s O R hc (I.weak h)
end
noncomputable abbrev Ay:=@Ex.tryOk
noncomputable abbrev Az:=@Ex.while_
noncomputable abbrev Bg:=@Ex.expr
noncomputable abbrev Bi:=@Whl.brk
structure Evs (d:Nat) (sc:Scope) (es:List Expr) (st:Sx) (vs:List SV) (st':Sx):Prop where
  run:∀ (c:Cx) (imm:List (Addr×Obj)) (s:Shared) (p:Pos),CxOK c→Room c d→c.scope=sc→Inv c imm st s →
  wpAny c.M c.A (spliced (backTo p (starEach es c.env))) (fun Vs s'=>∃ imm',Ext imm imm'∧Inv c imm' st' s'∧All2 (VR c.P imm') vs Vs) NoE s
section
variable {d:Nat} {sc:Scope} {st st₁ st₂ st₃ st':Sx} {fl:Fl}
theorem Evs.nil:Evs d sc [] st [] st:=.mk fun c imm s p O R hs I=>args_nil ⟨imm,.refl,I,.nil⟩
theorem Evs.cons {e:Expr} {es:List Expr} {v:SV} {vs:List SV} (h:Ev d sc e st v st₁) (hr:Evs d sc es st₁ vs st') (hs:bU e=true:=by rfl):Evs d sc (e::es) st (v::vs) st':=.mk fun c imm s p O R hc I=>by
  refine args_cons ?_ (aV hs)
  refine h.use O R hc I fun V s₁ imm₁ x₁ I₁ q₁=>?_
  refine wpAny_mono (hr.run c imm₁ s₁ p O R hc I₁) (fun Vs s₂ q=>?_) fun _ _ f=>f
  obtain ⟨imm₂,x₂,I₂,q₂⟩:=q
  exact ⟨imm₂,x₁.trans x₂,I₂,.cons (q₁.mono x₂.mem) q₂⟩
theorem gT {p:Pos} {env:Env}:∀ {es:List Expr},es.all bU=true→(backTo p (starEach es env)).any (·.1)=false
  | [],_=>rfl
  | e::es,h=>by
    obtain ⟨h1,h2⟩:=Bool.and_eq_true_iff.mp (show (bU e && es.all bU)=true from h)
    rw [aV h1]
    show (false || (backTo p (starEach es env)).any (·.1))=false
    rw [gT h2]
    rfl
end
structure FnIs (fa:Addr) (name qual:Str) (ps:List Str) (body:List Stmt) (scope:Scope):Prop where
  look:∀ P:Params,∃ params dV kV doc pm cdv ct oc an od osl,(Mine.KK P).lookup fa=some ⟨oc,od,.func (fnOf name qual params body scope dV kV doc pm an cdv ct),osl⟩∧codeIn (Mine.KK P) cdv qual=true ∧
    ∀ (s:Shared) (vals:List Value),vals.length=ps.length→BindsTo s (fnOf name qual params body scope dV kV doc pm an cdv ct) ⟨vals,[]⟩ (ps.zip vals)
  nodup:ps.Nodup
  loc:∀ x∈ps,scope.names.lookup x=some .local
  co:scope.isCoroutine=false
  gen:scope.isGenerator=false
  kind:scope.kind=.function
  cell:∀ x∈scope.names,x.2≠.cell
theorem zip_lookup {P:Params} {imm:List (Addr×Obj)}:∀ {ps:List Str} {vs:List SV} {Vs:List Value},ps.Nodup→All2 (VR P imm) vs Vs→∀ x v,List.lookup x (ps.zip vs)=some v→∃ V,(x,V)∈ps.zip Vs∧VR P imm v V
  | [],_,_,_,_,x,v,e=>by cases e
  | p::ps,[],_,_,_,x,v,e=>by cases e
  | p::ps,v::vs,_,hn,.cons (b:=V) (m:=Vs) h hr,x,u,e=>by
    rw [List.zip_cons_cons,cO] at e
    by_cases hx:x=p
    · rw [if_pos hx] at e
      cases e
      exact ⟨V,by rw [hx]; exact List.Mem.head _,h⟩
    · rw [if_neg hx] at e
      obtain ⟨W,h1,h2⟩:=zip_lookup (List.nodup_cons.mp hn).2 hr x u e
      exact ⟨W,List.Mem.tail _ h1,h2⟩
theorem iE {x:Str} {V:Value}:∀ {l:List (Str×Value)},(l.map (·.1)).Nodup→(x,V)∈l→l.lookup x=some V
  | (a,b)::l,hn,h=>by
    rw [List.lookup_cons]
    rw [List.map_cons,List.nodup_cons] at hn
    rcases List.mem_cons.mp h with e | h
    · cases e; simp
    · have:(x == a)=false:=by
        simp only [beq_eq_false_iff_ne,ne_eq]
        intro q
        exact hn.1 (List.mem_map.mpr ⟨(x,V),h,q⟩)
      rw [this]
      exact iE hn.2 h
theorem mN {P:Params} {imm:List (Addr×Obj)} {ps:List Str} {vs:List SV} {Vs:List Value} (hn:ps.Nodup) (hl:vs.length=ps.length) (h:All2 (VR P imm) vs Vs):LocOK P imm (ps.zip vs) (fun y=>(ps.zip Vs).reverse.lookup y):=fun x v e=>by
  obtain ⟨V,h1,h2⟩:=zip_lookup hn h x v e
  refine ⟨V,iE ?_ (List.mem_reverse.mpr h1),h2⟩
  have hl':Vs.length=ps.length:=by rw [← h.length]; exact hl
  rw [List.map_reverse,show (ps.zip Vs).map (·.1)=ps from by rw [List.map_fst_zip (by lia)]]
  exact List.pairwise_reverse.mpr (hn.imp fun h=>Ne.symm h)
structure CallOK (d:Nat) (fa:Addr) (args:List SV) (f:Mu) (v:SV) (f':Mu):Prop where
  run:∀ (c:Cx) (imm:List (Addr×Obj)) (s:Shared) (loc:Loc) (Vs:List Value),CxOK c→Room c d→Inv c imm ⟨loc,f⟩ s→All2 (VR c.P imm) args Vs →
    codeAny c.M c.A (.call (.ref fa) ⟨Vs,[]⟩) (fun r s'=>match r with | .ok (.ret V)=>QV c imm ⟨loc,f'⟩ v V s' | _=>False) s
theorem CallOK.fn {d:Nat} {fa:Addr} {name qual:Str} {ps:List Str} {body:List Stmt} {scope:Scope} {args:List SV} {f:Mu} {fl:Fl} {v:SV} {st':Sx} (FI:FnIs fa name qual ps body scope) (hl:args.length=ps.length)
    (h:Exs d scope body ⟨ps.zip args,f⟩ fl st') (hv:fl=.ret v∨(fl=.next∧v=.none)):CallOK (d+1) fa args f v st'.f:=.mk fun c imm s loc Vs O R I hargs=>by
  obtain ⟨g,m,mt,T,F,N,B,D,MO,ND,LO⟩:=id I.ex
  obtain ⟨params,dV,kV,doc,pm,cdv,ct,oc,an,od,osl,hk,hcd,hbind⟩:=FI.look c.P
  have hVl:Vs.length=ps.length:=by rw [← hargs.length]; exact hl
  refine code_defS (prog:=pw) (w:=c.w) (K:=c.K) (mean:=c.mean) (mg:=c.mg) (mb:=c.mb) (p:=qv) (loose:=looseW qv lo) (g₀:=c.g₀) (news:=mt++(imm++c.rest)) (outer:=c.outer) (cn:=c.qual) (cs:=c.scope) (a:=c.fa) (ccd:=c.cd) (binds:=ps.zip Vs)
    B F (Inv.X O B) N (O.TB.keeps B.stays) O.XB O.TB D T (Around.frames_deeper B.stack) hk hcd (by have:=R.1; lia) (hbind s Vs hVl) (fun y hy=>FI.loc _ (List.of_mem_zip hy).1) (fun g₁ L' h₁ FG F' N' B' X' T' D'=>?_) O.kind FI.co FI.gen FI.kind FI.cell
  let c':Cx:={ c with A₀:=c.A,outer:=c.env::c.outer,qual:=qual,scope:=scope,L:=L',fa:=fa,cd:=cdv,g₀:=g₁ }
  have O':CxOK c':=⟨O.XB,O.TB,FI.kind,O.handled⟩
  have R':Room c' d:=⟨by have:=R.1; show c.A.depth+1+d < _; lia,by have:=R.2; show c.A.units+3+3 * d+40≤_; lia⟩
  have I':Inv c' imm ⟨ps.zip args,f⟩ { s with heap:=h₁,toks:=s.toks+(ps.zip Vs).length }:=by
    refine ⟨I.sh,g₁,_,mt,KtsTurn.refl,F',N',B',D',?_,ND,mN FI.nodup hl hargs⟩
    exact MO
  refine wpAny_mono (h.run c' imm _ O' R' rfl I') (fun F₁ s₁ q=>?_) fun e s₁ q=>?_
  · have fin:∀ imm₁ V,Ext imm imm₁→Inv c' imm₁ st' s₁→VR c.P imm₁ v V→LeaveS ((envOf c.qual c.scope c.L c.fa c.cd::c.outer).filterMap (·.frame)) c.A₀ c.base c.outer c.K qv (looseW qv Mine.lo) c.mean c.mg c.mb c.g₀ g c.L m g₁
        (fun r s'=>match r with | .ok (.ret V)=>QV c imm ⟨loc,st'.f⟩ v V s' | _=>False) V s₁:=fun imm₁ V x₁ I₁ hV=>by
      obtain ⟨g₂,m₂,mt₂,T₂,F₂,N₂,B₂,D₂,MO₂,ND₂,LO₂⟩:=id I₁.ex
      refine leaveS_r F₂ N₂ T₂ fun h₀' T₃ F₃ N₃ B₃ X₃ P₃ D₃=>?_
      refine ⟨imm₁,x₁,⟨I₁.sh,h₀',m,mt₂,T₃,F₃,N₃,B₃,D₃,?_,ND₂,fun x v e=>?_⟩,hV⟩
      · exact MO₂
      · obtain ⟨W,a,b⟩:=LO x v e
        exact ⟨W,a,b.mono x₁.mem⟩
    rcases hv with rfl | ⟨rfl,rfl⟩
    · obtain ⟨V,rfl,imm₁,x₁,I₁,q₁⟩:=q
      exact fin imm₁ V x₁ I₁ q₁
    · obtain ⟨rfl,imm₁,x₁,I₁⟩:=q
      exact fin imm₁ .none x₁ I₁ rfl
  · rcases hv with rfl | ⟨rfl,rfl⟩ <;> exact q.elim
structure MethIs (name:Str) (fa:Addr):Prop where
  get:∀ P:Params,plainGet (Mine.KK P) 672 name=true∧findIn (Mine.KK P) (.ref 672) name=some (some (.ref fa))∧isFn (Mine.KK P) (.ref fa)=true∧keepIn (Mine.KK P) (.ref fa)=true
section
variable {d:Nat} {sc:Scope} {st st₁ st₂ st₃ st':Sx} {fl:Fl}
theorem Ev.meth {o:Expr} {name:Str} {ap p:Pos} {e:Expr} {es:List Expr} {x dx fa:Addr} {fs:Loc} {vs:List SV} {v:SV} {f':Mu} (ho:Ev d sc o st (.self x) st₁) (hf:st₁.f=.some (x,dx,fs)) (hn:fs.lookup name=Option.none)
    (MI:MethIs name fa) (hargs:Evs d sc (e::es) st₁ vs st₂) (hc:CallOK d fa (.self x::vs) st₂.f v f') (hz:nV o name ap (e::es) p) (h1:bU e=true:=by rfl) (h2:es.all bU=true:=by rfl) :
    Ev d sc (.Call (.Attribute o name ap) (e::es) [] p) st v ⟨st₂.loc,f'⟩:=.mk fun c imm s O R hcs I=>by
  obtain ⟨pl,hz⟩:=hz c.env
  refine MethodCall_ ?_ hz
  refine ho.use O R hcs I fun V₁ s₁ imm₁ x₁ I₁ q₁=>?_
  cases q₁
  obtain ⟨g,m,mt,T,F,N,B,D,MO,ND,LO⟩:=id I₁.ex
  obtain ⟨es',k,rfl,FO,_,IA⟩:=nJ hf N MO
  obtain ⟨m1,m2,m3,m4⟩:=MI.get c.P
  refine method_inst F (Inv.X O B) IA m1 m2 m3 (FO.getNone hn) ?_
  refine callWith_K (Inv.X O B) m4 ?_ (aV h1) (gT h2)
  refine wpAny_mono (hargs.run c imm₁ s₁ p O R hcs I₁) (fun Vs s₂ q=>?_) fun _ _ f=>f.elim
  obtain ⟨imm₂,x₂,I₂,q₂⟩:=q
  obtain ⟨g₂,m₂,mt₂,T₂,F₂,N₂,B₂,D₂,MO₂,ND₂,LO₂⟩:=id I₂.ex
  refine ⟨(Inv.X O B₂).keeps F₂.keep,?_⟩
  refine wpAny_call (codeAny_mono (hc.run c imm₂ s₂ st₂.loc (.ref x::Vs) O R I₂ (.cons rfl q₂)) fun r s₃ q=>?_)
  cases r with
  | error e=>exact q.elim
  | ok f =>
    cases f with
    | ret V=>exact cJ (x₁.trans x₂) q
    | _=>exact q.elim
theorem Ev.meth0 {o:Expr} {name:Str} {ap p:Pos} {x dx fa:Addr} {fs:Loc} {v:SV} {f':Mu} (ho:Ev d sc o st (.self x) st₁) (hf:st₁.f=.some (x,dx,fs)) (hn:fs.lookup name=Option.none)
    (MI:MethIs name fa) (hc:CallOK d fa [.self x] st₁.f v f') (hz:nV o name ap [] p) :
    Ev d sc (.Call (.Attribute o name ap) [] [] p) st v ⟨st₁.loc,f'⟩:=.mk fun c imm s O R hcs I=>by
  obtain ⟨pl,hz⟩:=hz c.env
  refine MethodCall_ ?_ hz
  refine ho.use O R hcs I fun V₁ s₁ imm₁ x₁ I₁ q₁=>?_
  cases q₁
  obtain ⟨g,m,mt,T,F,N,B,D,MO,ND,LO⟩:=id I₁.ex
  obtain ⟨es',k,rfl,FO,_,IA⟩:=nJ hf N MO
  obtain ⟨m1,m2,m3,m4⟩:=MI.get c.P
  refine method_inst F (Inv.X O B) IA m1 m2 m3 (FO.getNone hn) ?_
  refine callWith_K0 ((Inv.X O B).keeps F.keep) m4 ?_
  refine wpAny_call (codeAny_mono (hc.run c imm₁ s₁ st₁.loc [.ref x] O R I₁ (.cons rfl .nil)) fun r s₃ q=>?_)
  cases r with
  | error e=>exact q.elim
  | ok f =>
    cases f with
    | ret V=>exact cJ x₁ q
    | _=>exact q.elim
end
noncomputable abbrev Ah:=@Evs.cons
noncomputable abbrev Aq:=@Evs.nil
noncomputable abbrev Av:=@Ev.meth
noncomputable abbrev Aw:=@Ev.meth0
inductive FRun (d:Nat) (sc:Scope) (x:Str) (body:List Stmt):List SV→Sx→Fl→Sx→Prop
  | done {st}:FRun d sc x body [] st .next st
  | step {v vs st st₁ st' f fl} (l:Loc):Exs d sc body { st with loc:=putF x v st.loc } f st₁→(f=.next∨f=.cont)→(∀ x v,l.lookup x=some v→st₁.loc.lookup x=some v)→FRun d sc x body vs { st₁ with loc:=l } fl st'→FRun d sc x body (v::vs) st fl st'
  | brk {v vs st st₁} (l:Loc):Exs d sc body { st with loc:=putF x v st.loc } .brk st₁→(∀ x v,l.lookup x=some v→st₁.loc.lookup x=some v)→FRun d sc x body (v::vs) st .next { st₁ with loc:=l }
  | ret {v vs st st' u}:Exs d sc body { st with loc:=putF x v st.loc } (.ret u) st'→FRun d sc x body (v::vs) st (.ret u) st'
  | exc {v vs st st' C}:Exs d sc body { st with loc:=putF x v st.loc } (.exc C) st'→FRun d sc x body (v::vs) st (.exc C) st'
noncomputable def Cx.plus (c:Cx) (own:List (Addr×Obj)):Cx:={ c with rest:=own++c.rest }
section
variable {c:Cx} {imm:List (Addr×Obj)} {st:Sx} {s:Shared} {own:List (Addr×Obj)}
theorem Inv.minus (I:Inv (c.plus own) imm st s):Inv c imm st s:=by
  obtain ⟨g,m,mt,T,F,N,B,D,MO,ND,LO⟩:=I.ex
  have sub:(mt++(imm++c.rest)).Sublist (mt++(imm++(own++c.rest))):=(List.Sublist.refl _).append ((List.Sublist.refl _).append (List.sublist_append_right _ _))
  exact ⟨I.sh,g,m,mt,T,F,fun p hp=>N p (sub.subset hp),B,D,MO,(sub.map _).nodup ND,LO⟩
theorem Fly.minus {C:Addr} {e:Value} (h:Fly (c.plus own) imm st C e s):Fly c imm st C e s:=by
  cases h with
  | raw G I M=>exact .raw G I.minus M
  | held G a0 I H U=>exact .held G a0 I.minus H U
theorem ef_minus {fl:Fl} {e:Value} (h:EF (c.plus own) imm st fl e s):EF c imm st fl e s:=by
  cases fl with
  | exc C=>obtain ⟨i,a,b⟩:=h; exact ⟨i,a,b.minus⟩
  | _=>exact h
theorem ne_own {I₀:Addr} {o:Obj} {a b r:List (Addr×Obj)} (h:((a++(b++([(I₀,o)]++r))).map (·.1)).Nodup):∀ p∈a++(b++r),p.1≠I₀:=by
  have e:List.Perm (a++(b++([(I₀,o)]++r))) ((I₀,o)::(a++(b++r))):=by
    rw [← List.append_assoc,← List.append_assoc a b r]
    exact List.perm_middle
  have h':=(e.map (·.1)).nodup_iff.mp h
  rw [List.map_cons,List.nodup_cons] at h'
  exact fun p hp q=>h'.1 (List.mem_map.mpr ⟨p,hp,q⟩)
theorem Inv.off {I₀:Addr} {o:Obj} {h':Heap} (I:Inv (c.plus [(I₀,o)]) imm st s) (k:∀ b q,b≠I₀→s.heap.get? b=some q→h'.get? b=some q) (n:Nat):Inv c imm st { s with heap:=h',toks:=n }:=by
  obtain ⟨g,m,mt,T,F,N,B,D,MO,ND,LO⟩:=I.ex
  have hI:=N (I₀,o) (by simp [Cx.plus])
  have ne:=ne_own (I₀:=I₀) (o:=o) (a:=mt) (b:=imm) (r:=c.rest) ND
  have hLI:c.L≠I₀:=fun q=>hI.2.1 q.symm
  obtain ⟨oL,es,ep,hL,r⟩:=F.ns
  have sub:(mt++(imm++c.rest)).Sublist (mt++(imm++([(I₀,o)]++c.rest))):=(List.Sublist.refl _).append ((List.Sublist.refl _).append (List.sublist_append_right _ _))
  refine ⟨I.sh,g,m,mt,T,⟨⟨oL,es,ep,k _ _ hLI hL,r⟩,fun b q e=>k b q (fun z=>?_) (F.keep b q e),F.above⟩,fun p hp=>⟨k _ _ (ne p hp) (N p (sub.subset hp)).1,(N p (sub.subset hp)).2⟩,B,D,MO,(sub.map _).nodup ND,LO⟩
  have:=hI.2.2; rw [← z,e] at this; cases this
theorem Inv.turn {I₀:Addr} {o o':Obj} {h':Heap} (I:Inv (c.plus [(I₀,o)]) imm st s) (k:∀ b q,b≠I₀→s.heap.get? b=some q→h'.get? b=some q) (ho:h'.get? I₀=some o') (n:Nat) :
    Inv (c.plus [(I₀,o')]) imm st { s with heap:=h',toks:=n }:=by
  obtain ⟨g,m,mt,T,F,N,B,D,MO,ND,LO⟩:=I.ex
  have hI:=N (I₀,o) (by simp [Cx.plus])
  have ne:=ne_own (I₀:=I₀) (o:=o) (a:=mt) (b:=imm) (r:=c.rest) ND
  have hLI:c.L≠I₀:=fun q=>hI.2.1 q.symm
  obtain ⟨oL,es,ep,hL,r⟩:=F.ns
  have sub:(mt++(imm++c.rest)).Sublist (mt++(imm++([(I₀,o)]++c.rest))):=(List.Sublist.refl _).append ((List.Sublist.refl _).append (List.sublist_append_right _ _))
  refine ⟨I.sh,g,m,mt,T,⟨⟨oL,es,ep,k _ _ hLI hL,r⟩,fun b q e=>k b q (fun z=>?_) (F.keep b q e),F.above⟩,fun p hp=>?_,B,D,MO,?_,LO⟩
  · have:=hI.2.2; rw [← z,e] at this; cases this
  · have old:∀ p∈mt++(imm++c.rest),h'.get? p.1=some p.2∧p.1≠c.L∧g.get? p.1=none:=fun p hp=>⟨k _ _ (ne p hp) (N p (sub.subset hp)).1,(N p (sub.subset hp)).2⟩
    rcases List.mem_append.mp hp with h | h
    · exact old p (List.mem_append_left _ h)
    · rcases List.mem_append.mp h with h | h
      · exact old p (List.mem_append_right _ (List.mem_append_left _ h))
      · rcases List.mem_append.mp h with h | h
        · rw [List.mem_singleton.mp h]
          exact ⟨ho,hI.2⟩
        · exact old p (List.mem_append_right _ (List.mem_append_right _ h))
  · have e:(mt++(imm++(c.plus [(I₀,o')]).rest)).map (·.1)=(mt++(imm++(c.plus [(I₀,o)]).rest)).map (·.1):=by simp [Cx.plus]
    rw [e]
    exact ND
theorem Inv.has {I₀:Addr} {o:Obj} (I:Inv (c.plus [(I₀,o)]) imm st s):s.heap.get? I₀=some o:=by
  obtain ⟨g,m,mt,T,F,N,B,D,MO,ND,LO⟩:=I.ex
  exact (N (I₀,o) (by simp [Cx.plus])).1
theorem Inv.immAt (I:Inv c imm st s) {p:Addr×Obj} (h:p∈imm):s.heap.get? p.1=some p.2:=by
  obtain ⟨g,m,mt,T,F,N,B,D,MO,ND,LO⟩:=I.ex
  exact (N p (List.mem_append_right _ (List.mem_append_left _ h))).1
theorem keep_fp {I₀:Addr} {o:Obj} {imm₁ imm₂:List (Addr×Obj)} {st₁ st₂:Sx} {s₁ s₂:Shared} {fp:List Addr} (I₁:Inv (c.plus [(I₀,o)]) imm₁ st₁ s₁) (I₂:Inv (c.plus [(I₀,o)]) imm₂ st₂ s₂) (x₁:Ext imm imm₁) (x₂:Ext imm imm₂)
    (hfp:∀ b∈fp,b≠I₀→∃ q,(b,q)∈imm∨c.base.get? b=some q):∀ b∈fp,∀ q,s₁.heap.get? b=some q→s₂.heap.get? b=some q:=fun b hb q e=>by
  by_cases h:b=I₀
  · subst h
    rw [I₁.has] at e
    rw [I₂.has]
    exact e
  · obtain ⟨q',h'⟩:=hfp b hb h
    rcases h' with h' | h'
    · have e1:=I₁.immAt (x₁.mem _ h')
      have e2:=I₂.immAt (x₂.mem _ h')
      rw [e] at e1
      cases e1
      exact e2
    · have e1:=Inv.stays (s:=s₁) I₁ b q' h'
      have e2:=Inv.stays (s:=s₂) I₂ b q' h'
      rw [e] at e1
      cases e1
      exact e2
theorem for_core {d:Nat} {sc:Scope} {x:Str} {px:Pos} {body:List Stmt} {I₀:Addr} {fp:List Addr} {n:Nat} {P:Nat→Value→Prop} {St:Nat→Heap→Prop} {vs:List SV} {fl:Fl} {st':Sx} {imm₀:List (Addr×Obj)} {o:Obj}
    (O:CxOK c) (R:Room c d) (hs:c.scope=sc) (W:Walks pw c.w c.A I₀ fp [I₀] n P St) (hI:∀ i h,St i h→∃ o,h.get? I₀=some o) (hn:vs.length=n)
    (hP:∀ i v V,vs[i]?=some v→P i V→∀ imm,VR c.P imm v V) (hx:sc.names.lookup x=some .local) (hfp:∀ b∈fp,b≠I₀→∃ q,(b,q)∈imm∨c.base.get? b=some q)
    (run:FRun d sc x body vs st fl st') (x₀:Ext imm₀ imm) (I:Inv (c.plus [(I₀,o)]) imm st s) (h0:St 0 s.heap) :
    codeAny c.M c.A (.forLoop (.Name x px) (.ref I₀) body [] c.env) (fun r s'=>match r with | .ok f=>QF c imm₀ st' fl f s' | .error e=>cameBackBy c.M c.A c.env (EF c imm₀ st' fl) e s') s:=by
  refine codeAny_forLoop_any (prog:=pw) (w:=c.w)
    (fun k s'=>∃ i imm₁ o₁ st₁,k=n+1 - i∧i≤n∧FRun d sc x body (vs.drop i) st₁ fl st'∧Ext imm imm₁∧Inv (c.plus [(I₀,o₁)]) imm₁ st₁ s'∧St i s'.heap) ?_ (n+1)
    ⟨0,imm,o,st,rfl,Nat.zero_le _,run,.refl,I,h0⟩
  rintro k s₁ ⟨i,imm₁,o₁,st₁,rfl,hi,run₁,x₁,I₁,hst⟩
  have hE:∀ e s',EF c imm₀ st' fl e s'→notedBy c.M c.A c.env (fun e s'=>cameBackBy c.M c.A c.env (EF c imm₀ st' fl) e s') e s':=gS O imm₀ st' fl
  cases hvs:vs.drop i with
  | nil =>
    rw [hvs] at run₁
    cases run₁
    have hin:i=n:=by
      have:=congrArg List.length hvs
      rw [List.length_drop] at this
      simp at this
      lia
    subst hin
    refine W.done _ _ _ hst fun h' tk hk=>wpAny_execs_nil ?_
    exact ⟨rfl,imm₁,x₀.trans x₁,I₁.off (fun b q hb=>hk b q (by simpa using hb)) tk⟩
  | cons v ws =>
    rw [hvs] at run₁
    have hlt:i < n:=by
      have:=congrArg List.length hvs
      rw [List.length_drop,List.length_cons] at this
      lia
    have hv:vs[i]?=some v:=by
      have:(vs.drop i)[0]?=some v:=by rw [hvs]; rfl
      rwa [List.getElem?_drop,Nat.add_zero] at this
    have hws:vs.drop (i+1)=ws:=by rw [← List.drop_drop (i:=1),hvs]; rfl
    refine W.item i _ _ _ hlt hst fun V h₂ tk₂ hPV hst₂ hk₂=>?_
    obtain ⟨o₂,ho₂⟩:=hI _ _ hst₂
    have I₂:=I₁.turn (h':=h₂) (o':=o₂) (fun b q hb=>hk₂ b q (by simpa using hb)) ho₂ tk₂
    have hgo:letOwnedTupleGo (.Name x px) (.ref I₀) V=pure ():=rfl
    show wpAny c.M c.A (letOwnedTupleGo (.Name x px) (.ref I₀) V) _ _ _
    rw [hgo]
    refine wpAny_pure (wpAny_assign_Name ?_)
    have O':CxOK (c.plus [(I₀,o₂)]):=⟨O.XB,O.TB,O.kind,O.hd⟩
    refine dH (c:=c.plus [(I₀,o₂)]) O' I₂ (hP i v V hv hPV _) (hs▸hx) fun s₃ I₃=>?_
    have use:∀ {f st₂},Exs d sc body { st₁ with loc:=putF x v st₁.loc } f st₂→wpAny c.M c.A (execs body c.env) (QF (c.plus [(I₀,o₂)]) imm₁ st₂ f) (EF (c.plus [(I₀,o₂)]) imm₁ st₂ f) s₃:=fun h=>h.run (c.plus [(I₀,o₂)]) imm₁ s₃ O' R hs I₃
    have st3:St (i+1) s₃.heap:=W.frame _ _ _ hst₂ (keep_fp (c:=c) I₂ I₃ x₁ x₁ hfp)
    cases run₁ with
    | @step _ _ _ st₂ _ f₁ _ l h hf hl hr =>
      refine wpAny_mono (use h) (fun F s₄ q=>?_) fun e s₄ q=>?_
      · have key:∃ imm₂,Ext imm₁ imm₂∧Inv (c.plus [(I₀,o₂)]) imm₂ st₂ s₄∧(F=.next∨F=.cont):=by
          rcases hf with rfl | rfl
          · obtain ⟨rfl,imm₂,x₂,I₂⟩:=q; exact ⟨imm₂,x₂,I₂,.inl rfl⟩
          · obtain ⟨rfl,imm₂,x₂,I₂⟩:=q; exact ⟨imm₂,x₂,I₂,.inr rfl⟩
        obtain ⟨imm₂,x₂,I₄,hF⟩:=key
        have fin:∃ m,m < n+1 - i∧∃ i imm₁ o₁ st₁,m=n+1 - i∧i≤n∧FRun d sc x body (vs.drop i) st₁ fl st'∧Ext imm imm₁∧Inv (c.plus [(I₀,o₁)]) imm₁ st₁ s₄∧St i s₄.heap :=
          ⟨n+1 - (i+1),by lia,i+1,imm₂,o₂,_,rfl,hlt,hws▸hr,x₁.trans x₂,I₄.weak hl,W.frame _ _ _ st3 (keep_fp (c:=c) I₃ I₄ x₁ (x₁.trans x₂) hfp)⟩
        rcases hF with rfl | rfl <;> exact fin
      · rcases hf with rfl | rfl <;> exact q.elim
    | brk l h hl =>
      refine wpAny_mono (use h) (fun F s₄ q=>?_) fun e s₄ q=>q.elim
      obtain ⟨rfl,imm₂,x₂,I₂⟩:=q
      exact ⟨rfl,imm₂,(x₀.trans x₁).trans x₂,I₂.minus.weak hl⟩
    | ret h =>
      refine wpAny_mono (use h) (fun F s₄ q=>?_) fun e s₄ q=>q.elim
      obtain ⟨V,rfl,imm₂,x₂,I₂,q⟩:=q
      exact ⟨V,rfl,imm₂,(x₀.trans x₁).trans x₂,I₂.minus,q⟩
    | exc h =>
      refine wpAny_mono (use h) (fun F s₄ q=>q.elim) fun e s₄ q=>hE e s₄ ?_
      exact ef_ext (fl:=.exc _) (x₀.trans x₁) (ef_minus (fl:=.exc _) q)
end
section
variable {c:Cx} {imm:List (Addr×Obj)} {st:Sx} {s:Shared}
theorem Inv.own (I:Inv c imm st s) (o:Obj) (hf:o.isFreed=false):Inv (c.plus [(s.heap.objs.size,o)]) imm st { s with heap:=s.heap.push o }:=by
  obtain ⟨g,m,mt,T,F,N,B,D,MO,ND,LO⟩:=I.ex
  have N':=N.push F o hf
  have sz:∀ p∈mt++(imm++c.rest),p.1≠s.heap.objs.size:=fun p hp=>Nat.ne_of_lt (Heap.lt_size (N p hp).1)
  have e:List.Perm (mt++(imm++([(s.heap.objs.size,o)]++c.rest))) ((s.heap.objs.size,o)::(mt++(imm++c.rest))):=by
    rw [← List.append_assoc,← List.append_assoc mt imm c.rest]
    exact List.perm_middle
  refine ⟨I.sh,g,m,mt,T,F.push o,fun p hp=>N' p (e.mem_iff.mp hp),B,D,MO,?_,LO⟩
  refine (e.map (·.1)).nodup_iff.mpr ?_
  rw [List.map_cons,List.nodup_cons]
  exact ⟨fun h=>by
    obtain ⟨p,hp,q⟩:=List.mem_map.mp h
    exact sz p hp q,ND⟩
theorem Inv.new (I:Inv c imm st s) (o:Obj) (hf:o.isFreed=false):Inv c ((s.heap.objs.size,o)::imm) st { s with heap:=s.heap.push o }:=by
  obtain ⟨g,m,mt,T,F,N,B,D,MO,ND,LO⟩:=I.ex
  have N':=N.push F o hf
  have sz:∀ p∈mt++(imm++c.rest),p.1≠s.heap.objs.size:=fun p hp=>Nat.ne_of_lt (Heap.lt_size (N p hp).1)
  have e:List.Perm (mt++(((s.heap.objs.size,o)::imm)++c.rest)) ((s.heap.objs.size,o)::(mt++(imm++c.rest))):=List.perm_middle
  refine ⟨I.sh,g,m,mt,T,F.push o,fun p hp=>N' p (e.mem_iff.mp hp),B,D,MO,?_,fun x v h=>?_⟩
  · refine (e.map (·.1)).nodup_iff.mpr ?_
    rw [List.map_cons,List.nodup_cons]
    exact ⟨fun h=>by
      obtain ⟨p,hp,q⟩:=List.mem_map.mp h
      exact sz p hp q,ND⟩
  · obtain ⟨V,a,b⟩:=LO x v h
    exact ⟨V,a,b.mono fun p hp=>List.mem_cons_of_mem _ hp⟩
end
noncomputable def upTo (a b:Int):List SV:=(List.range (b - a).toNat).map fun (i:Nat)=>SV.int (a+(i:Int))
noncomputable def iF (a b:Int):List SV:=(List.range (a - b).toNat).map fun (i:Nat)=>SV.int (a - (i:Int))
theorem jH (a b:Int):Builtin.Range.rangeSize a b (-1)=if b < a then a - b else 0:=by
  unfold Builtin.Range.rangeSize
  simp only [show ¬ ((-1:Int) > 0) by decide,if_false,Int.neg_neg,Int.ediv_one]
  by_cases h:b < a
  · rw [if_pos h,if_pos h]; lia
  · rw [if_neg h,if_neg h]
theorem small_down {a b:Int} (ha : -(2 ^ 62)≤a) (ha':a < 2 ^ 62) (hb : -(2 ^ 62)≤b) (hb':b < 2 ^ 62):Builtin.Range.small a b (-1)=true:=by
  unfold Builtin.Range.small
  rw [jH]
  simp only [Builtin.Range.rangeFitsLong,Bool.and_eq_true,Bool.or_eq_true,decide_eq_true_eq,beq_iff_eq,show ¬ ((-1:Int) > 0) by decide,if_false]
  split <;> lia
section
variable {d:Nat} {sc:Scope} {st st₁ st₂ st₃ st':Sx} {fl:Fl}
theorem nM {c:Cx} {imm imm₀:List (Addr×Obj)} {s:Shared} {x:Str} {px:Pos} {body:List Stmt} {r:Addr} {a b k:Int} {t u v:Tok} {vs:List SV} {n:Nat} (O:CxOK c) (R:Room c d) (hs:c.scope=sc) (hr:IsRange s.heap r a b k t u v)
    (hsm:Builtin.Range.small a b k=true) (hn:Builtin.Range.rangeSize a b k=(n:Int)) (hl:vs.length=n) (hv:∀ (i:Nat) (w:SV),vs[i]?=some w→w=SV.int (a+(i:Int) * k)) (hx:sc.names.lookup x=some .local) (run:FRun d sc x body vs st fl st') (x₀:Ext imm₀ imm) (I:Inv c imm st s) :
    wpAny c.M c.A (pyIter (.ref r)) (fun it s₂=>codeAny c.M c.A (.forLoop (.Name x px) it body [] c.env) (fun r s'=>match r with | .ok f=>QF c imm₀ st' fl f s' | .error e=>cameBackBy c.M c.A c.env (EF c imm₀ st' fl) e s') s₂) NoE s:=by
  refine wpAny_pyIter_range (prog:=pw) (w:=c.w) hr hsm ?_
  have I':=I.own { cls:=.type "range_iterator",data:=.fields #[rawInt a,rawInt (Builtin.Range.rangeSize a b k),rawInt k] } rfl
  refine for_core O R hs (Walks.range O.handled s.heap.objs.size a k n) (fun i h q=>⟨_,q⟩) hl (fun i w V e q imm=>?_) hx (fun b hb hne=>(hne (by simpa using hb)).elim) run x₀ I' ?_
  · rw [hv i w e]
    exact q
  · show IsRangeIter _ _ _ _ _
    rw [show a+((0:Nat):Int) * k=a from by simp,show (n:Int) - ((0:Nat):Int)=Builtin.Range.rangeSize a b k from by rw [hn]; simp]
    exact Heap.get?_push_size _ rfl
theorem Ex.forUp {x:Str} {px rp cp p:Pos} {ea eb:Expr} {a b:Int} {body:List Stmt} (hr:sc.names.lookup ("range" : Str)=some .globalImplicit) (ha:Ev d sc ea st (.int a) st₁) (hb:Ev d sc eb st₁ (.int b) st₂) (hx:sc.names.lookup x=some .local)
    (ha' : -(2 ^ 40)≤a∧a < 2 ^ 40) (hb' : -(2 ^ 40)≤b∧b < 2 ^ 40) (run:FRun d sc x body (upTo a b) st₂ fl st') (h1:bU ea=true:=by rfl) (h2:bU eb=true:=by rfl) :
    Ex d sc (.For (.Name x px) (.Call (.Name "range" rp) [ea,eb] [] cp) body [] p) st fl st':=.mk fun c imm s O R hc I=>by
  refine wpAny_For ?_ Zn
  refine Call_ (iX O I (k_range _) boot_range (by decide) (hc▸hr) (by decide) (PyProof.Rows.callWith_type1 (args_cons ?_ (aV h1)) (aV h1) (by rw [aV h2]; rfl)))
  refine ha.use O R hc I fun V₁ s₁ imm₁ x₁ I₁ q₁=>args_cons ?_ (aV h2)
  refine hb.use O R hc I₁ fun V₂ s₂ imm₂ x₂ I₂ q₂=>args_nil ?_
  obtain ⟨t,rfl⟩:=q₁
  obtain ⟨u,rfl⟩:=q₂
  obtain ⟨g,m,mt,T,F,N,B,D,MO,ND,LO⟩:=id I₂.ex
  refine range2_rows F N fun h' tk t₁ u₁ v₁ hR F' N' kp=>?_
  refine wpAny_mono (nM (s:={ s₂ with heap:=h',toks:=tk }) (n:=(b - a).toNat) O R hc hR (small_one (by lia) (by lia) (by lia) (by lia)) ?_ (by simp [upTo]) (fun i w e=>?_) hx run (x₁.trans x₂) (I₂.keeps kp tk)) (fun _ _ h=>h) fun _ _ f=>f.elim
  · rw [rangeSize_one]; split <;> lia
  · unfold upTo at e
    rw [List.getElem?_map] at e
    obtain ⟨j,hj,rfl⟩:=Option.map_eq_some_iff.mp e
    obtain ⟨_,e'⟩:=List.getElem?_eq_some_iff.mp hj
    rw [List.getElem_range] at e'
    subst e'
    simp
theorem Ex.forDown {x:Str} {px rp cp p:Pos} {ea eb ec:Expr} {a b:Int} {body:List Stmt} (hr:sc.names.lookup ("range" : Str)=some .globalImplicit) (ha:Ev d sc ea st (.int a) st₁) (hb:Ev d sc eb st₁ (.int b) st₂) (hc':Ev d sc ec st₂ (.int (-1)) st₃) (hx:sc.names.lookup x=some .local)
    (ha' : -(2 ^ 40)≤a∧a < 2 ^ 40) (hb' : -(2 ^ 40)≤b∧b < 2 ^ 40) (run:FRun d sc x body (iF a b) st₃ fl st') (h1:bU ea=true:=by rfl) (h2:bU eb=true:=by rfl) (h3:bU ec=true:=by rfl) :
    Ex d sc (.For (.Name x px) (.Call (.Name "range" rp) [ea,eb,ec] [] cp) body [] p) st fl st':=.mk fun c imm s O R hc I=>by
  refine wpAny_For ?_ Zn
  refine Call_ (iX O I (k_range _) boot_range (by decide) (hc▸hr) (by decide) (PyProof.Rows.callWith_type1 (args_cons ?_ (aV h1)) (aV h1) (by rw [aV h2,aV h3]; rfl)))
  refine ha.use O R hc I fun V₁ s₁ imm₁ x₁ I₁ q₁=>args_cons ?_ (aV h2)
  refine hb.use O R hc I₁ fun V₂ s₂ imm₂ x₂ I₂ q₂=>args_cons ?_ (aV h3)
  refine hc'.use O R hc I₂ fun V₃ s₃ imm₃ x₃ I₃ q₃=>args_nil ?_
  obtain ⟨t,rfl⟩:=q₁
  obtain ⟨u,rfl⟩:=q₂
  obtain ⟨v,rfl⟩:=q₃
  obtain ⟨g,m,mt,T,F,N,B,D,MO,ND,LO⟩:=id I₃.ex
  refine range3_rows F N (by decide) (fun h' tk t₁ u₁ v₁ hR F' N' kp=>?_) (.inl (PyProof.noPylong_small (by decide)))
  refine wpAny_mono (nM (s:={ s₃ with heap:=h',toks:=tk }) (n:=(a - b).toNat) O R hc hR (small_down (by lia) (by lia) (by lia) (by lia)) ?_ (by simp [iF]) (fun i w e=>?_) hx run ((x₁.trans x₂).trans x₃) (I₃.keeps kp tk)) (fun _ _ h=>h) fun _ _ f=>f.elim
  · rw [jH]; split <;> lia
  · unfold iF at e
    rw [List.getElem?_map] at e
    obtain ⟨j,hj,rfl⟩:=Option.map_eq_some_iff.mp e
    obtain ⟨_,e'⟩:=List.getElem?_eq_some_iff.mp hj
    rw [List.getElem_range] at e'
    subst e'
    congr 1
    lia
theorem Ex.forPair {x:Str} {px tp p:Pos} {k:Nat} {ea eb:Expr} {va vb:Int} {body:List Stmt} (ha:Ev d sc ea st (.int va) st₁) (hb:Ev d sc eb st₁ (.int vb) st₂) (hx:sc.names.lookup x=some .local)
    (run:FRun d sc x body [.int va,.int vb] st₂ fl st') (hf:∀ env x,foldedSetIterable (.Tuple [ea,eb] k tp) env x=pure x) (h1:bU ea=true:=by rfl) (h2:bU eb=true:=by rfl) :
    Ex d sc (.For (.Name x px) (.Tuple [ea,eb] k tp) body [] p) st fl st':=.mk fun c imm s O R hc I=>by
  refine wpAny_For (Tuple_ (args_cons ?_ (aV h1))) (hf _)
  refine ha.use O R hc I fun V₁ s₁ imm₁ x₁ I₁ q₁=>args_cons ?_ (aV h2)
  refine hb.use O R hc I₁ fun V₂ s₂ imm₂ x₂ I₂ q₂=>args_nil ?_
  have I₃:=I₂.new { cls:=.type "tuple",data:=.seq [V₁,V₂].toArray } rfl
  obtain ⟨g,m,mt,T,F,N,B,D,MO,ND,LO⟩:=id I₂.ex
  refine wpAny_newObj_type ?_ (by show 2≤sizeLine; decide)
  have hT:(s₂.heap.push { cls:=.type "tuple",data:=.seq [V₁,V₂].toArray }).IsTuple s₂.heap.objs.size [V₁,V₂].toArray:=⟨_,Heap.get?_push_size _ rfl,rfl,0,rfl⟩
  refine wpAny_pyIter_tuple (prog:=pw) (w:=c.w) hT ?_
  have I₄:=I₃.own { cls:=.type "tuple_iterator",data:=.fields #[.ref s₂.heap.objs.size,.int 0 0] } rfl
  have hne:s₂.heap.objs.size≠(s₂.heap.push { cls:=.type "tuple",data:=.seq [V₁,V₂].toArray }).objs.size:=by rw [Heap.size_push]; lia
  refine for_core O R hc (Walks.tuple O.handled _ _ hne [V₁,V₂].toArray) (fun i h q=>?_) (by simp) (fun i w V e q imm'=>?_) hx (fun b hb hne=>?_) run ((x₁.trans x₂).trans ⟨[_],rfl⟩) I₄ ?_
  · obtain ⟨⟨o,ho,_⟩,_⟩:=q
    exact ⟨o,ho⟩
  · rcases i with _ | _ | i
    · cases e
      have:V=V₁:=by simpa using q.symm
      subst this
      exact q₁
    · cases e
      have:V=V₂:=by simpa using q.symm
      subst this
      exact q₂
    · cases e
  · have:b=s₂.heap.objs.size:=by
      rcases List.mem_cons.mp hb with h | h
      · exact (hne h).elim
      · simpa using h
    subst this
    exact ⟨_,.inl (List.Mem.head _)⟩
  · exact ⟨⟨_,Heap.get?_push_size _ rfl,rfl,rfl⟩,hT.push _⟩
end
noncomputable def aG (s:Stmt):List Stmt:=match s with
  | .FunctionDef _ _ b _ _ _ _ _ _ _=>b
  | _=>[]
noncomputable def aE (s:Stmt):Scope:=match s with
  | .FunctionDef _ _ _ _ _ _ sc _ _ _=>sc
  | _=>⟨.function,[],false,false,[]⟩
noncomputable def dU (s:Stmt):Str:=match s with
  | .FunctionDef n _ _ _ _ _ _ _ _ _=>n
  | _ => ""
noncomputable def fdOf (P:Params) (fa:Addr):FuncData:=match (Mine.KK P).lookup fa with
  | some ⟨_,_,.func fd,_⟩=>fd
  | _=>fnOf "" "" ⟨[],[],none,[],[],none,[]⟩ [] ⟨.function,[],false,false,[]⟩ .none .none .none .none none .none .none
noncomputable def fZ (sc:Scope):Bool:=sc.names.all fun x=>!(x.2 == .cell)
theorem cell_of {sc:Scope} (h:fZ sc=true):∀ x∈sc.names,x.2≠.cell:=fun x hx e=>by
  have:=List.all_eq_true.mp h x hx
  rw [e] at this
  cases this
theorem jE {fd:FuncData} {p:Str} (h:∀ a:Value,bindArgs fd ⟨[a],[]⟩=pure [(p,a)]):∀ (s:Shared) (vals:List Value),vals.length=[p].length→BindsTo s fd ⟨vals,[]⟩ ([p].zip vals)
  | s,[a],_=>BindsTo.of_eq (h a)
  | _,[],e=>(nomatch e)
  | _,_::_::_,e=>by simp at e
theorem bind2 {fd:FuncData} {p q:Str} (h:∀ a b:Value,bindArgs fd ⟨[a,b],[]⟩=pure [(p,a),(q,b)]):∀ (s:Shared) (vals:List Value),vals.length=[p,q].length→BindsTo s fd ⟨vals,[]⟩ ([p,q].zip vals)
  | s,[a,b],_=>BindsTo.of_eq (h a b)
  | _,[],e=>(nomatch e)
  | _,[_],e=>by simp at e
  | _,_::_::_::_,e=>by simp at e
theorem bind4 {fd:FuncData} {p q r t:Str} (h:∀ a b c d:Value,bindArgs fd ⟨[a,b,c,d],[]⟩=pure [(p,a),(q,b),(r,c),(t,d)]):∀ (s:Shared) (vals:List Value),vals.length=[p,q,r,t].length→BindsTo s fd ⟨vals,[]⟩ ([p,q,r,t].zip vals)
  | s,[a,b,c,d],_=>BindsTo.of_eq (h a b c d)
  | _,[],e=>(nomatch e)
  | _,[_],e=>by simp at e
  | _,[_,_],e=>by simp at e
  | _,[_,_,_],e=>by simp at e
  | _,_::_::_::_::_::_,e=>by simp at e
theorem FnIs.mk' {fa:Addr} {name qual:Str} {ps:List Str} {body:List Stmt} {scope:Scope} (h1:∀ P,(Mine.KK P).lookup fa=some ⟨.type "function",none,.func (fnOf name qual (fdOf P fa).params body scope (fdOf P fa).defaults (fdOf P fa).kwdefaults (fdOf P fa).doc (fdOf P fa).pyModule (fdOf P fa).annotations (fdOf P fa).code (fdOf P fa).closureTuple),#[]⟩) (h2:∀ P,codeIn (Mine.KK P) (fdOf P fa).code qual=true) (h3:∀ P (s:Shared) (vals:List Value),vals.length=ps.length→BindsTo s (fnOf name qual (fdOf P fa).params body scope (fdOf P fa).defaults (fdOf P fa).kwdefaults (fdOf P fa).doc (fdOf P fa).pyModule (fdOf P fa).annotations (fdOf P fa).code (fdOf P fa).closureTuple) ⟨vals,[]⟩ (ps.zip vals)) (h4:ps.Nodup) (h5:∀ x∈ps,scope.names.lookup x=some .local) (h6:scope.isCoroutine=false) (h7:scope.isGenerator=false) (h8:scope.kind=.function) (h9:fZ scope=true):FnIs fa name qual ps body scope :=
  ⟨fun P=>⟨_,_,_,_,_,_,_,_,_,_,_,h1 P,h2 P,h3 P⟩,h4,h5,h6,h7,h8,cell_of h9⟩
theorem fn___init__:FnIs 35 (dU (stC 2 0)) "BaseStemmer.__init__" [("self" : Str)] (aG (stC 2 0)) (aE (stC 2 0)) :=
  .mk' (fun _=>by kernel_rfl) (fun _=>by kernel_rfl) (fun _=>jE (by intros; kernel_rfl)) (by decide) (by decide +kernel) (by kernel_rfl) (by kernel_rfl) (by kernel_rfl) (by kernel_rfl)
theorem jL:FnIs 42 (dU (stC 2 1)) "BaseStemmer.set_current" [("self" : Str),("value" : Str)] (aG (stC 2 1)) (aE (stC 2 1)) :=
  .mk' (fun _=>by kernel_rfl) (fun _=>by kernel_rfl) (fun _=>bind2 (by intros; kernel_rfl)) (by decide) (by decide +kernel) (by kernel_rfl) (by kernel_rfl) (by kernel_rfl) (by kernel_rfl)
theorem hH:MethIs "set_current" 42 where
  get:=fun P=>⟨by kernel_rfl,by kernel_rfl,by kernel_rfl,by kernel_rfl⟩
theorem fn_get_current:FnIs 49 (dU (stC 2 2)) "BaseStemmer.get_current" [("self" : Str)] (aG (stC 2 2)) (aE (stC 2 2)) :=
  .mk' (fun _=>by kernel_rfl) (fun _=>by kernel_rfl) (fun _=>jE (by intros; kernel_rfl)) (by decide) (by decide +kernel) (by kernel_rfl) (by kernel_rfl) (by kernel_rfl) (by kernel_rfl)
theorem kK:MethIs "get_current" 49 where
  get:=fun P=>⟨by kernel_rfl,by kernel_rfl,by kernel_rfl,by kernel_rfl⟩
theorem cL:FnIs 77 (dU (stC 2 6)) "BaseStemmer.in_grouping_b" [("self" : Str),("s" : Str)] (aG (stC 2 6)) (aE (stC 2 6)) :=
  .mk' (fun _=>by kernel_rfl) (fun _=>by kernel_rfl) (fun _=>bind2 (by intros; kernel_rfl)) (by decide) (by decide +kernel) (by kernel_rfl) (by kernel_rfl) (by kernel_rfl) (by kernel_rfl)
theorem bM:MethIs "in_grouping_b" 77 where
  get:=fun P=>⟨by kernel_rfl,by kernel_rfl,by kernel_rfl,by kernel_rfl⟩
theorem fG:FnIs 112 (dU (stC 2 11)) "BaseStemmer.go_out_grouping_b" [("self" : Str),("s" : Str)] (aG (stC 2 11)) (aE (stC 2 11)) :=
  .mk' (fun _=>by kernel_rfl) (fun _=>by kernel_rfl) (fun _=>bind2 (by intros; kernel_rfl)) (by decide) (by decide +kernel) (by kernel_rfl) (by kernel_rfl) (by kernel_rfl) (by kernel_rfl)
theorem bN:MethIs "go_out_grouping_b" 112 where
  get:=fun P=>⟨by kernel_rfl,by kernel_rfl,by kernel_rfl,by kernel_rfl⟩
theorem fn_eq_s:FnIs 119 (dU (stC 2 12)) "BaseStemmer.eq_s" [("self" : Str),("s" : Str)] (aG (stC 2 12)) (aE (stC 2 12)) :=
  .mk' (fun _=>by kernel_rfl) (fun _=>by kernel_rfl) (fun _=>bind2 (by intros; kernel_rfl)) (by decide) (by decide +kernel) (by kernel_rfl) (by kernel_rfl) (by kernel_rfl) (by kernel_rfl)
theorem m_eq_s:MethIs "eq_s" 119 where
  get:=fun P=>⟨by kernel_rfl,by kernel_rfl,by kernel_rfl,by kernel_rfl⟩
theorem fn_eq_s_b:FnIs 126 (dU (stC 2 13)) "BaseStemmer.eq_s_b" [("self" : Str),("s" : Str)] (aG (stC 2 13)) (aE (stC 2 13)) :=
  .mk' (fun _=>by kernel_rfl) (fun _=>by kernel_rfl) (fun _=>bind2 (by intros; kernel_rfl)) (by decide) (by decide +kernel) (by kernel_rfl) (by kernel_rfl) (by kernel_rfl) (by kernel_rfl)
theorem m_eq_s_b:MethIs "eq_s_b" 126 where
  get:=fun P=>⟨by kernel_rfl,by kernel_rfl,by kernel_rfl,by kernel_rfl⟩
theorem fn_find_among:FnIs 133 (dU (stC 2 14)) "BaseStemmer.find_among" [("self" : Str),("v" : Str)] (aG (stC 2 14)) (aE (stC 2 14)) :=
  .mk' (fun _=>by kernel_rfl) (fun _=>by kernel_rfl) (fun _=>bind2 (by intros; kernel_rfl)) (by decide) (by decide +kernel) (by kernel_rfl) (by kernel_rfl) (by kernel_rfl) (by kernel_rfl)
theorem aX:MethIs "find_among" 133 where
  get:=fun P=>⟨by kernel_rfl,by kernel_rfl,by kernel_rfl,by kernel_rfl⟩
theorem nQ:FnIs 140 (dU (stC 2 15)) "BaseStemmer.find_among_b" [("self" : Str),("v" : Str)] (aG (stC 2 15)) (aE (stC 2 15)) :=
  .mk' (fun _=>by kernel_rfl) (fun _=>by kernel_rfl) (fun _=>bind2 (by intros; kernel_rfl)) (by decide) (by decide +kernel) (by kernel_rfl) (by kernel_rfl) (by kernel_rfl) (by kernel_rfl)
theorem aS:MethIs "find_among_b" 140 where
  get:=fun P=>⟨by kernel_rfl,by kernel_rfl,by kernel_rfl,by kernel_rfl⟩
theorem iV:FnIs 147 (dU (stC 2 16)) "BaseStemmer.replace_s" [("self" : Str),("c_bra" : Str),("c_ket" : Str),("s" : Str)] (aG (stC 2 16)) (aE (stC 2 16)) :=
  .mk' (fun _=>by kernel_rfl) (fun _=>by kernel_rfl) (fun _=>bind4 (by intros; kernel_rfl)) (by decide) (by decide +kernel) (by kernel_rfl) (by kernel_rfl) (by kernel_rfl) (by kernel_rfl)
theorem m_replace_s:MethIs "replace_s" 147 where
  get:=fun P=>⟨by kernel_rfl,by kernel_rfl,by kernel_rfl,by kernel_rfl⟩
theorem fn_slice_from:FnIs 154 (dU (stC 2 17)) "BaseStemmer.slice_from" [("self" : Str),("s" : Str)] (aG (stC 2 17)) (aE (stC 2 17)) :=
  .mk' (fun _=>by kernel_rfl) (fun _=>by kernel_rfl) (fun _=>bind2 (by intros; kernel_rfl)) (by decide) (by decide +kernel) (by kernel_rfl) (by kernel_rfl) (by kernel_rfl) (by kernel_rfl)
theorem bD:MethIs "slice_from" 154 where
  get:=fun P=>⟨by kernel_rfl,by kernel_rfl,by kernel_rfl,by kernel_rfl⟩
theorem fn_slice_del:FnIs 161 (dU (stC 2 18)) "BaseStemmer.slice_del" [("self" : Str)] (aG (stC 2 18)) (aE (stC 2 18)) :=
  .mk' (fun _=>by kernel_rfl) (fun _=>by kernel_rfl) (fun _=>jE (by intros; kernel_rfl)) (by decide) (by decide +kernel) (by kernel_rfl) (by kernel_rfl) (by kernel_rfl) (by kernel_rfl)
theorem hG:MethIs "slice_del" 161 where
  get:=fun P=>⟨by kernel_rfl,by kernel_rfl,by kernel_rfl,by kernel_rfl⟩
theorem nN:FnIs 189 (dU (stC 2 22)) "BaseStemmer.stemWord" [("self" : Str),("word" : Str)] (aG (stC 2 22)) (aE (stC 2 22)) :=
  .mk' (fun _=>by kernel_rfl) (fun _=>by kernel_rfl) (fun _=>bind2 (by intros; kernel_rfl)) (by decide) (by decide +kernel) (by kernel_rfl) (by kernel_rfl) (by kernel_rfl) (by kernel_rfl)
theorem m_stemWord:MethIs "stemWord" 189 where
  get:=fun P=>⟨by kernel_rfl,by kernel_rfl,by kernel_rfl,by kernel_rfl⟩
theorem kD:FnIs 238 (dU (stC 6 3)) "EsperantoStemmer.r_canonical_form" [("self" : Str)] (aG (stC 6 3)) (aE (stC 6 3)) :=
  .mk' (fun _=>by kernel_rfl) (fun _=>by kernel_rfl) (fun _=>jE (by intros; kernel_rfl)) (by decide) (by decide +kernel) (by kernel_rfl) (by kernel_rfl) (by kernel_rfl) (by kernel_rfl)
theorem bF:MethIs "r_canonical_form" 238 where
  get:=fun P=>⟨by kernel_rfl,by kernel_rfl,by kernel_rfl,by kernel_rfl⟩
theorem bH:FnIs 245 (dU (stC 6 4)) "EsperantoStemmer.r_initial_apostrophe" [("self" : Str)] (aG (stC 6 4)) (aE (stC 6 4)) :=
  .mk' (fun _=>by kernel_rfl) (fun _=>by kernel_rfl) (fun _=>jE (by intros; kernel_rfl)) (by decide) (by decide +kernel) (by kernel_rfl) (by kernel_rfl) (by kernel_rfl) (by kernel_rfl)
theorem bC:MethIs "r_initial_apostrophe" 245 where
  get:=fun P=>⟨by kernel_rfl,by kernel_rfl,by kernel_rfl,by kernel_rfl⟩
theorem iW:FnIs 252 (dU (stC 6 5)) "EsperantoStemmer.r_pronoun" [("self" : Str)] (aG (stC 6 5)) (aE (stC 6 5)) :=
  .mk' (fun _=>by kernel_rfl) (fun _=>by kernel_rfl) (fun _=>jE (by intros; kernel_rfl)) (by decide) (by decide +kernel) (by kernel_rfl) (by kernel_rfl) (by kernel_rfl) (by kernel_rfl)
theorem dP:MethIs "r_pronoun" 252 where
  get:=fun P=>⟨by kernel_rfl,by kernel_rfl,by kernel_rfl,by kernel_rfl⟩
theorem fC:FnIs 259 (dU (stC 6 6)) "EsperantoStemmer.r_final_apostrophe" [("self" : Str)] (aG (stC 6 6)) (aE (stC 6 6)) :=
  .mk' (fun _=>by kernel_rfl) (fun _=>by kernel_rfl) (fun _=>jE (by intros; kernel_rfl)) (by decide) (by decide +kernel) (by kernel_rfl) (by kernel_rfl) (by kernel_rfl) (by kernel_rfl)
theorem bJ:MethIs "r_final_apostrophe" 259 where
  get:=fun P=>⟨by kernel_rfl,by kernel_rfl,by kernel_rfl,by kernel_rfl⟩
theorem fR:FnIs 266 (dU (stC 6 7)) "EsperantoStemmer.r_ujn_suffix" [("self" : Str)] (aG (stC 6 7)) (aE (stC 6 7)) :=
  .mk' (fun _=>by kernel_rfl) (fun _=>by kernel_rfl) (fun _=>jE (by intros; kernel_rfl)) (by decide) (by decide +kernel) (by kernel_rfl) (by kernel_rfl) (by kernel_rfl) (by kernel_rfl)
theorem eY:MethIs "r_ujn_suffix" 266 where
  get:=fun P=>⟨by kernel_rfl,by kernel_rfl,by kernel_rfl,by kernel_rfl⟩
theorem fE:FnIs 273 (dU (stC 6 8)) "EsperantoStemmer.r_uninflected" [("self" : Str)] (aG (stC 6 8)) (aE (stC 6 8)) :=
  .mk' (fun _=>by kernel_rfl) (fun _=>by kernel_rfl) (fun _=>jE (by intros; kernel_rfl)) (by decide) (by decide +kernel) (by kernel_rfl) (by kernel_rfl) (by kernel_rfl) (by kernel_rfl)
theorem cR:MethIs "r_uninflected" 273 where
  get:=fun P=>⟨by kernel_rfl,by kernel_rfl,by kernel_rfl,by kernel_rfl⟩
theorem eI:FnIs 280 (dU (stC 6 9)) "EsperantoStemmer.r_merged_numeral" [("self" : Str)] (aG (stC 6 9)) (aE (stC 6 9)) :=
  .mk' (fun _=>by kernel_rfl) (fun _=>by kernel_rfl) (fun _=>jE (by intros; kernel_rfl)) (by decide) (by decide +kernel) (by kernel_rfl) (by kernel_rfl) (by kernel_rfl) (by kernel_rfl)
theorem cN:MethIs "r_merged_numeral" 280 where
  get:=fun P=>⟨by kernel_rfl,by kernel_rfl,by kernel_rfl,by kernel_rfl⟩
theorem eE:FnIs 287 (dU (stC 6 10)) "EsperantoStemmer.r_correlative" [("self" : Str)] (aG (stC 6 10)) (aE (stC 6 10)) :=
  .mk' (fun _=>by kernel_rfl) (fun _=>by kernel_rfl) (fun _=>jE (by intros; kernel_rfl)) (by decide) (by decide +kernel) (by kernel_rfl) (by kernel_rfl) (by kernel_rfl) (by kernel_rfl)
theorem cI:MethIs "r_correlative" 287 where
  get:=fun P=>⟨by kernel_rfl,by kernel_rfl,by kernel_rfl,by kernel_rfl⟩
theorem fA:FnIs 294 (dU (stC 6 11)) "EsperantoStemmer.r_long_word" [("self" : Str)] (aG (stC 6 11)) (aE (stC 6 11)) :=
  .mk' (fun _=>by kernel_rfl) (fun _=>by kernel_rfl) (fun _=>jE (by intros; kernel_rfl)) (by decide) (by decide +kernel) (by kernel_rfl) (by kernel_rfl) (by kernel_rfl) (by kernel_rfl)
theorem hJ:MethIs "r_long_word" 294 where
  get:=fun P=>⟨by kernel_rfl,by kernel_rfl,by kernel_rfl,by kernel_rfl⟩
theorem eA:FnIs 301 (dU (stC 6 12)) "EsperantoStemmer.r_standard_suffix" [("self" : Str)] (aG (stC 6 12)) (aE (stC 6 12)) :=
  .mk' (fun _=>by kernel_rfl) (fun _=>by kernel_rfl) (fun _=>jE (by intros; kernel_rfl)) (by decide) (by decide +kernel) (by kernel_rfl) (by kernel_rfl) (by kernel_rfl) (by kernel_rfl)
theorem fN:MethIs "r_standard_suffix" 301 where
  get:=fun P=>⟨by kernel_rfl,by kernel_rfl,by kernel_rfl,by kernel_rfl⟩
theorem fH:FnIs 308 (dU (stC 6 13)) "EsperantoStemmer._stem" [("self" : Str)] (aG (stC 6 13)) (aE (stC 6 13)) :=
  .mk' (fun _=>by kernel_rfl) (fun _=>by kernel_rfl) (fun _=>jE (by intros; kernel_rfl)) (by decide) (by decide +kernel) (by kernel_rfl) (by kernel_rfl) (by kernel_rfl) (by kernel_rfl)
theorem m__stem:MethIs "_stem" 308 where
  get:=fun P=>⟨by kernel_rfl,by kernel_rfl,by kernel_rfl,by kernel_rfl⟩
noncomputable def FF (cur:T) (c lm lb bra ket:Int):Loc:=[("current",.str cur),("cursor",.int c),("limit",.int lm),("limit_backward",.int lb),("bra",.int bra),("ket",.int ket)]
theorem aU:("current" : Str)∈fieldNames:=by simp [fieldNames]
theorem aJ:("cursor" : Str)∈fieldNames:=by simp [fieldNames]
theorem dD:("limit" : Str)∈fieldNames:=by simp [fieldNames]
theorem aH:("limit_backward" : Str)∈fieldNames:=by simp [fieldNames]
theorem f_bra:("bra" : Str)∈fieldNames:=by simp [fieldNames]
theorem f_ket:("ket" : Str)∈fieldNames:=by simp [fieldNames]
theorem cW {v:SV} (hv:plainV v=true:=by rfl):∀ P imm V,VR P imm v V→VR P [] v V:=fun P imm V h=>by cases v <;> first | exact h | cases hv
section
variable {a b:Int} {x y:T} {ch:Nat} {l:List Nat} {r:Bool}
theorem bY (h:a=b):CmpOK .Eq (.int a) (.int b) true:=mD (by simp [h])
theorem aI (h:a≠b):CmpOK .Eq (.int a) (.int b) false:=mD (by simp [h])
theorem i_ne_t (h:a≠b):CmpOK .NotEq (.int a) (.int b) true:=mD (by simp [h])
theorem i_ne_f (h:a=b):CmpOK .NotEq (.int a) (.int b) false:=mD (by simp [h])
theorem eR (h:a < b):CmpOK .Lt (.int a) (.int b) true:=mD (by simp [h])
theorem fQ (h:b≤a):CmpOK .Lt (.int a) (.int b) false:=mD (by simp; lia)
theorem cS (h:a≤b):CmpOK .LtE (.int a) (.int b) true:=mD (by simp [h])
theorem dF (h:b < a):CmpOK .LtE (.int a) (.int b) false:=mD (by simp; lia)
theorem eC (h:b < a):CmpOK .Gt (.int a) (.int b) true:=mD (by simp [h])
theorem dT (h:a≤b):CmpOK .Gt (.int a) (.int b) false:=mD (by simp; lia)
theorem i_ge_t (h:b≤a):CmpOK .GtE (.int a) (.int b) true:=mD (by simp [h])
theorem nK (h:a < b):CmpOK .GtE (.int a) (.int b) false:=mD (by simp; lia)
theorem kH (h:x=y):CmpOK .Eq (.str x) (.str y) true:=c_str_eq (by simp [h])
theorem iI (h:x≠y):CmpOK .Eq (.str x) (.str y) false:=c_str_eq (by simp [h])
theorem jG (h:x≠y):CmpOK .NotEq (.str x) (.str y) true:=c_str_ne (by simp [h])
theorem gR (h:x=y):CmpOK .NotEq (.str x) (.str y) false:=c_str_ne (by simp [h])
theorem c_in (h:decide (ch∈l)=r):CmpOK .In (.str [ch]) (.grp l) r:=c_grp_in h
theorem c_nin (h:decide (ch ∉ l)=r):CmpOK .NotIn (.str [ch]) (.grp l) r:=c_grp_nin h
end
section
variable {d:Nat} {sc:Scope} {st st₁ st₂ st₃ st':Sx} {fl:Fl}
theorem CallOK.fn2 {fa:Addr} {name qual:Str} {ps:List Str} {body:List Stmt} {scope:Scope} {args:List SV} {f f':Mu} {v:SV} (FI:FnIs fa name qual ps body scope) (hl:args.length=ps.length)
    (hv:fl=.ret v∨(fl=.next∧v=.none)) (h:Exs d scope body ⟨ps.zip args,f⟩ fl st') (hf:st'.f=f'):CallOK (d+1) fa args f v f':=hf▸CallOK.fn FI hl h hv
theorem Ev.not_ {e:Expr} {p:Pos} {b:Bool} (h:Ev d sc e st (.bool b) st'):Ev d sc (.UnaryOp .Not e p) st (.bool (!b)) st':=.mk fun c imm s O R hs I=>by
  refine wpAny_UnaryOp ?_
  exact h.use O R hs I fun V s' imm' x I' q=>by
    cases q
    exact wpAny_bind (wpAny_truthy_bool (wpAny_pure (cJ x (jQ I' .bool_))))
theorem Ex.augLAdd {x:Str} {px p:Pos} {e:Expr} {a b:Int} (hx:st.loc.lookup x=some (.int a)) (h:Ev d sc e st (.int b) st₁) (hl:sc.names.lookup x=some .local) :
    Ex d sc (.AugAssign (.Name x px) .Add e p) st .next { st₁ with loc:=putF x (.int (a+b)) st₁.loc }:=Ex.augL (.inl rfl) hx h hl
theorem Ex.augFAdd {y n:Str} {py po p:Pos} {e:Expr} {a b:Int} {x dx:Addr} {fs fs':Loc} (ho:Ev d sc (.Name y py) st (.self x) st₁) (hf:st₁.f=.some (x,dx,fs)) (hn:n∈fieldNames) (hx:fs.lookup n=some (.int a))
    (h:Ev d sc e st₁ (.int b) st₂) (hf':st₂.f=.some (x,dx,fs')) (hlen:fs'.length≤50) :
    Ex d sc (.AugAssign (.Attribute (.Name y py) n po) .Add e p) st .next { st₂ with f:=.some (x,dx,putF n (.int (a+b)) fs') }:=Ex.augF (.inl rfl) ho hf hn hx h hf' hlen
theorem Ex.augFSub {y n:Str} {py po p:Pos} {e:Expr} {a b:Int} {x dx:Addr} {fs fs':Loc} (ho:Ev d sc (.Name y py) st (.self x) st₁) (hf:st₁.f=.some (x,dx,fs)) (hn:n∈fieldNames) (hx:fs.lookup n=some (.int a))
    (h:Ev d sc e st₁ (.int b) st₂) (hf':st₂.f=.some (x,dx,fs')) (hlen:fs'.length≤50) :
    Ex d sc (.AugAssign (.Attribute (.Name y py) n po) .Sub e p) st .next { st₂ with f:=.some (x,dx,putF n (.int (a - b)) fs') }:=Ex.augF (.inr rfl) ho hf hn hx h hf' hlen
theorem k_lab0 (P:Params):nsIn (Mine.KK P) mainGlobals "lab0" = some (some (.ref 684)):=by kernel_rfl
theorem k_lab1 (P:Params):nsIn (Mine.KK P) mainGlobals "lab1" = some (some (.ref 697)):=by kernel_rfl
theorem k_kts0 (P:Params):ktsIn (Mine.KK P) 684 "BaseException" = true:=by kernel_rfl
theorem k_kts1 (P:Params):ktsIn (Mine.KK P) 697 "BaseException" = true:=by kernel_rfl
theorem k_exc0 (P:Params):excIn (Mine.KK P) 684 [.type "Exception",.type "BaseException",.type "object"] "Exception.__new__" = true:=by kernel_rfl
theorem k_exc1 (P:Params):excIn (Mine.KK P) 697 [.type "Exception",.type "BaseException",.type "object"] "Exception.__new__" = true:=by kernel_rfl
theorem Ex.raise_lab0 {np cp p:Pos} (hx:sc.names.lookup ("lab0" : Str)=some .globalImplicit):Ex d sc (.Raise (some (.Call (.Name "lab0" np) [] [] cp)) Option.none p) st (.exc 684) st:=Ex.raise PySem.F.excBase_Exception hx (by decide) k_lab0 k_exc0
theorem Ex.raise_lab1 {np cp p:Pos} (hx:sc.names.lookup ("lab1" : Str)=some .globalImplicit):Ex d sc (.Raise (some (.Call (.Name "lab1" np) [] [] cp)) Option.none p) st (.exc 697) st:=Ex.raise PySem.F.excBase_Exception hx (by decide) k_lab1 k_exc1
theorem Ex.try_lab0 {body:List Stmt} {np pp hp p:Pos} (h:Exs d sc body st (.exc 684) st') (hx:sc.names.lookup ("lab0" : Str)=some .globalImplicit):Ex d sc (.Try body [.ExceptHandler (some (.Name "lab0" np)) Option.none [.Pass pp] hp] [] [] p) st .next st' :=
  Ex.tryC h hx (by decide) k_lab0 k_kts0
theorem Ex.try_lab1 {body:List Stmt} {np pp hp p:Pos} (h:Exs d sc body st (.exc 697) st') (hx:sc.names.lookup ("lab1" : Str)=some .globalImplicit):Ex d sc (.Try body [.ExceptHandler (some (.Name "lab1" np)) Option.none [.Pass pp] hp] [] [] p) st .next st' :=
  Ex.tryC h hx (by decide) k_lab1 k_kts1
end
noncomputable abbrev Ao:=@Ex.raise_lab0
noncomputable abbrev As:=@Ex.try_lab0
noncomputable abbrev Au:=@CallOK.fn2
noncomputable abbrev Cg:=@Ex.raise_lab1
noncomputable abbrev Ck:=@Ex.augFSub
theorem igb_g_lo {d:Nat} {x dx:Addr} {cur:T} {c lm lb bra ket:Int}{l:List Nat} (h:c≤lb):CallOK (d+1) 77 [.self x,.grp l] (.some (x,dx,FF cur c lm lb bra ket)) (.bool false) (.some (x,dx,FF cur c lm lb bra ket)):=by
  refine' Au cL rfl (.inl rfl) (Ab (Ak (Ac (Aj Zl (by rfl) aJ (by rfl) Zn) (Aj Zl (by rfl) aH (by rfl) Zn) (cS (by lia))) (Ab (Ax Ap) (by simp))) (by simp)) ?_
  rfl
theorem igb_g_no {d:Nat} {x dx:Addr} {cur:T} {c lm lb bra ket:Int}{l:List Nat} (h:lb < c) (h0:0≤lb) {ch:Nat} (hc:cur[(c - 1).toNat]?=some ch) (hl:decide (ch ∉ l)=true):CallOK (d+1) 77 [.self x,.grp l] (.some (x,dx,FF cur c lm lb bra ket)) (.bool false) (.some (x,dx,FF cur c lm lb bra ket)):=by
  refine' Au cL rfl (.inl rfl) (Aa (Af (Ac (Aj Zl (by rfl) aJ (by rfl) Zn) (Aj Zl (by rfl) aH (by rfl) Zn) (dF (by lia))) Ad) (Ab (Ak (Ac (Bu (Aj Zl (by rfl) aU (by rfl) Zn) (Ag (Aj Zl (by rfl) aJ (by rfl) Zn) Ae) (by lia) (by first | assumption | (simp; assumption) | simp_all)) Zl (c_nin (by first | assumption | (simp; assumption) | simp_all))) (Ab (Ax Ap) (by simp))) (by simp))) ?_
  rfl
theorem igb_g_yes {d:Nat} {x dx:Addr} {cur:T} {c lm lb bra ket:Int}{l:List Nat} (h:lb < c) (h0:0≤lb) {ch:Nat} (hc:cur[(c - 1).toNat]?=some ch) (hl:decide (ch ∉ l)=false):CallOK (d+1) 77 [.self x,.grp l] (.some (x,dx,FF cur c lm lb bra ket)) (.bool true) (.some (x,dx,FF cur (c - 1) lm lb bra ket)):=by
  refine' Au cL rfl (.inl rfl) (Aa (Af (Ac (Aj Zl (by rfl) aJ (by rfl) Zn) (Aj Zl (by rfl) aH (by rfl) Zn) (dF (by lia))) Ad) (Aa (Af (Ac (Bu (Aj Zl (by rfl) aU (by rfl) Zn) (Ag (Aj Zl (by rfl) aJ (by rfl) Zn) Ae) (by lia) (by first | assumption | (simp; assumption) | simp_all)) Zl (c_nin (by first | assumption | (simp; assumption) | simp_all))) Ad) (Aa (Ck Zl (by rfl) aJ (by rfl) Ae (by rfl) Zb) (Ab (Ax Ap) (by simp))))) ?_
  rfl
theorem igb_s_lo {d:Nat} {x dx:Addr} {cur:T} {c lm lb bra ket:Int}{l:T} (h:c≤lb):CallOK (d+1) 77 [.self x,.str l] (.some (x,dx,FF cur c lm lb bra ket)) (.bool false) (.some (x,dx,FF cur c lm lb bra ket)):=by
  refine' Au cL rfl (.inl rfl) (Ab (Ak (Ac (Aj Zl (by rfl) aJ (by rfl) Zn) (Aj Zl (by rfl) aH (by rfl) Zn) (cS (by lia))) (Ab (Ax Ap) (by simp))) (by simp)) ?_
  rfl
theorem igb_s_no {d:Nat} {x dx:Addr} {cur:T} {c lm lb bra ket:Int}{l:T} (h:lb < c) (h0:0≤lb) {ch:Nat} (hc:cur[(c - 1).toNat]?=some ch) (hl:decide (ch ∉ l)=true):CallOK (d+1) 77 [.self x,.str l] (.some (x,dx,FF cur c lm lb bra ket)) (.bool false) (.some (x,dx,FF cur c lm lb bra ket)):=by
  refine' Au cL rfl (.inl rfl) (Aa (Af (Ac (Aj Zl (by rfl) aJ (by rfl) Zn) (Aj Zl (by rfl) aH (by rfl) Zn) (dF (by lia))) Ad) (Ab (Ak (Ac (Bu (Aj Zl (by rfl) aU (by rfl) Zn) (Ag (Aj Zl (by rfl) aJ (by rfl) Zn) Ae) (by lia) (by first | assumption | (simp; assumption) | simp_all)) Zl (c_str_nin (by first | assumption | (simp; assumption) | simp_all))) (Ab (Ax Ap) (by simp))) (by simp))) ?_
  rfl
theorem igb_s_yes {d:Nat} {x dx:Addr} {cur:T} {c lm lb bra ket:Int}{l:T} (h:lb < c) (h0:0≤lb) {ch:Nat} (hc:cur[(c - 1).toNat]?=some ch) (hl:decide (ch ∉ l)=false):CallOK (d+1) 77 [.self x,.str l] (.some (x,dx,FF cur c lm lb bra ket)) (.bool true) (.some (x,dx,FF cur (c - 1) lm lb bra ket)):=by
  refine' Au cL rfl (.inl rfl) (Aa (Af (Ac (Aj Zl (by rfl) aJ (by rfl) Zn) (Aj Zl (by rfl) aH (by rfl) Zn) (dF (by lia))) Ad) (Aa (Af (Ac (Bu (Aj Zl (by rfl) aU (by rfl) Zn) (Ag (Aj Zl (by rfl) aJ (by rfl) Zn) Ae) (by lia) (by first | assumption | (simp; assumption) | simp_all)) Zl (c_str_nin (by first | assumption | (simp; assumption) | simp_all))) Ad) (Aa (Ck Zl (by rfl) aJ (by rfl) Ae (by rfl) Zb) (Ab (Ax Ap) (by simp))))) ?_
  rfl
theorem eqs_yes {d:Nat} {x dx:Addr} {cur:T} {c lm lb bra ket:Int}{y:T} (h:0≤c∧c≤lm∧lm≤cur.length) (he:decide ((sl cur c lm).take y.length=y)=true):CallOK (d+1) 119 [.self x,.str y] (.some (x,dx,FF cur c lm lb bra ket)) (.bool true) (.some (x,dx,FF cur (c+y.length) lm lb bra ket)):=by
  refine' Au fn_eq_s rfl (.inl rfl) (Ab (Ak (Ai (Ev.starts (Ev.slice (Aj Zl (by rfl) aU (by rfl) Zn) (Aj Zl (by rfl) aJ (by rfl) Zn) (Aj Zl (by rfl) dD (by rfl) Zn) (by lia)) Zl (by first | assumption | (simp; assumption) | simp_all) (fun _=>⟨_,rfl⟩)) Zn) (Aa (Ex.augFAdd Zl (by rfl) aJ (by rfl) (Be (by rfl) Zl) (by rfl) Zb) (Ab (Ax Ap) (by simp)))) (by simp)) ?_
  rfl
theorem eqs_no {d:Nat} {x dx:Addr} {cur:T} {c lm lb bra ket:Int}{y:T} (h:0≤c∧c≤lm∧lm≤cur.length) (he:decide ((sl cur c lm).take y.length=y)=false):CallOK (d+1) 119 [.self x,.str y] (.some (x,dx,FF cur c lm lb bra ket)) (.bool false) (.some (x,dx,FF cur c lm lb bra ket)):=by
  refine' Au fn_eq_s rfl (.inl rfl) (Aa (Af (Ai (Ev.starts (Ev.slice (Aj Zl (by rfl) aU (by rfl) Zn) (Aj Zl (by rfl) aJ (by rfl) Zn) (Aj Zl (by rfl) dD (by rfl) Zn) (by lia)) Zl (by first | assumption | (simp; assumption) | simp_all) (fun _=>⟨_,rfl⟩)) Zn) Ad) (Ab (Ax Ap) (by simp))) ?_
  rfl
theorem eqsb_yes {d:Nat} {x dx:Addr} {cur:T} {c lm lb bra ket:Int}{y:T} (h:0≤lb∧lb≤c∧c≤cur.length) (he:decide (y.length≤(sl cur lb c).length∧(sl cur lb c).drop ((sl cur lb c).length - y.length)=y)=true):CallOK (d+1) 126 [.self x,.str y] (.some (x,dx,FF cur c lm lb bra ket)) (.bool true) (.some (x,dx,FF cur (c - y.length) lm lb bra ket)):=by
  refine' Au fn_eq_s_b rfl (.inl rfl) (Ab (Ak (Ai (Ev.ends (Ev.slice (Aj Zl (by rfl) aU (by rfl) Zn) (Aj Zl (by rfl) aH (by rfl) Zn) (Aj Zl (by rfl) aJ (by rfl) Zn) (by lia)) Zl (by first | assumption | (simp; assumption) | simp_all) (fun _=>⟨_,rfl⟩)) Zn) (Aa (Ck Zl (by rfl) aJ (by rfl) (Be (by rfl) Zl) (by rfl) Zb) (Ab (Ax Ap) (by simp)))) (by simp)) ?_
  rfl
theorem eqsb_no {d:Nat} {x dx:Addr} {cur:T} {c lm lb bra ket:Int}{y:T} (h:0≤lb∧lb≤c∧c≤cur.length) (he:decide (y.length≤(sl cur lb c).length∧(sl cur lb c).drop ((sl cur lb c).length - y.length)=y)=false):CallOK (d+1) 126 [.self x,.str y] (.some (x,dx,FF cur c lm lb bra ket)) (.bool false) (.some (x,dx,FF cur c lm lb bra ket)):=by
  refine' Au fn_eq_s_b rfl (.inl rfl) (Aa (Af (Ai (Ev.ends (Ev.slice (Aj Zl (by rfl) aU (by rfl) Zn) (Aj Zl (by rfl) aH (by rfl) Zn) (Aj Zl (by rfl) aJ (by rfl) Zn) (by lia)) Zl (by first | assumption | (simp; assumption) | simp_all) (fun _=>⟨_,rfl⟩)) Zn) Ad) (Ab (Ax Ap) (by simp))) ?_
  rfl
theorem get_cur {d:Nat} {x dx:Addr} {cur:T} {c lm lb bra ket:Int}  : CallOK (d+1) 49 [.self x] (.some (x,dx,FF cur c lm lb bra ket)) (.str cur) (.some (x,dx,FF cur c lm lb bra ket)):=by
  refine' Au fn_get_current rfl (.inl rfl) (Ab (Ax (Aj Zl (by rfl) aU (by rfl) Zn)) (by simp)) ?_
  rfl
noncomputable def rcur (cur:T) (bra ket:Int) (y:T):T:=sl cur 0 bra++y++sl cur ket cur.length
noncomputable def rcc (c bra ket:Int) (y:T):Int:=if ket≤c then c+(y.length - (ket - bra)) else if bra < c then bra else c
theorem repl {d:Nat} {x dx:Addr} {cur y:T} {c lm lb bra ket q r:Int} (h:0≤bra∧bra≤ket∧ket≤cur.length) (h1:(sl cur 0 bra++y).length≤lim) (h2:(sl cur 0 bra++y++sl cur ket cur.length).length≤lim):CallOK (d+1) 147 [.self x,.int bra,.int ket,.str y] (.some (x,dx,FF cur c lm lb q r)) (.int (y.length - (ket - bra))) (.some (x,dx,FF (rcur cur bra ket y) (rcc c bra ket y) (lm+(y.length - (ket - bra))) lb q r)):=by
  by_cases c1:ket≤c
  · rw [show rcc c bra ket y=c+(y.length - (ket - bra)) from if_pos c1]
    refine' Au iV rfl (.inl rfl) (Aa (Am (Ag (Be (by rfl) Zl) (Ag Zl Zl)) (by rfl) Zn) (Aa (Bx (Ch (Ch (Ev.slice (Aj Zl (by rfl) aU (by rfl) Zn) Ae Zl (by lia)) Zl (by assumption)) (Ev.sliceFrom (Aj Zl (by rfl) aU (by rfl) Zn) Zl (by lia)) (by assumption)) Zl (by rfl) aU Zb cW Zn) (Aa (Ex.augFAdd Zl (by rfl) dD (by rfl) Zl (by rfl) Zb) (Aa (Ak (Ac (Aj Zl (by rfl) aJ (by rfl) Zn) Zl (i_ge_t (by lia))) (Aa (Ex.augFAdd Zl (by rfl) aJ (by rfl) Zl (by rfl) Zb) Ad)) (Ab (Ax Zl) (by simp)))))) ?_
    rfl
  by_cases c2:bra < c
  · rw [show rcc c bra ket y=bra from (if_neg c1).trans (if_pos c2)]
    refine' Au iV rfl (.inl rfl) (Aa (Am (Ag (Be (by rfl) Zl) (Ag Zl Zl)) (by rfl) Zn) (Aa (Bx (Ch (Ch (Ev.slice (Aj Zl (by rfl) aU (by rfl) Zn) Ae Zl (by lia)) Zl (by assumption)) (Ev.sliceFrom (Aj Zl (by rfl) aU (by rfl) Zn) Zl (by lia)) (by assumption)) Zl (by rfl) aU Zb cW Zn) (Aa (Ex.augFAdd Zl (by rfl) dD (by rfl) Zl (by rfl) Zb) (Aa (Af (Ac (Aj Zl (by rfl) aJ (by rfl) Zn) Zl (nK (by lia))) (Aa (Ak (Ac (Aj Zl (by rfl) aJ (by rfl) Zn) Zl (eC (by lia))) (Aa (Bx Zl Zl (by rfl) aJ Zb cW Zn) Ad)) Ad)) (Ab (Ax Zl) (by simp)))))) ?_
    rfl
  rw [show rcc c bra ket y=c from (if_neg c1).trans (if_neg c2)]
  refine' Au iV rfl (.inl rfl) (Aa (Am (Ag (Be (by rfl) Zl) (Ag Zl Zl)) (by rfl) Zn) (Aa (Bx (Ch (Ch (Ev.slice (Aj Zl (by rfl) aU (by rfl) Zn) Ae Zl (by lia)) Zl (by assumption)) (Ev.sliceFrom (Aj Zl (by rfl) aU (by rfl) Zn) Zl (by lia)) (by assumption)) Zl (by rfl) aU Zb cW Zn) (Aa (Ex.augFAdd Zl (by rfl) dD (by rfl) Zl (by rfl) Zb) (Aa (Af (Ac (Aj Zl (by rfl) aJ (by rfl) Zn) Zl (nK (by lia))) (Aa (Af (Ac (Aj Zl (by rfl) aJ (by rfl) Zn) Zl (dT (by lia))) Ad) Ad)) (Ab (Ax Zl) (by simp)))))) ?_
  rfl
theorem slfrom {d:Nat} {x dx:Addr} {cur y:T} {c lm lb bra ket:Int} (h:0≤bra∧bra≤ket∧ket≤lm∧lm=cur.length) (h1:(sl cur 0 bra++y).length≤lim) (h2:(sl cur 0 bra++y++sl cur ket cur.length).length≤lim):CallOK (d+2) 154 [.self x,.str y] (.some (x,dx,FF cur c lm lb bra ket)) (.none) (.some (x,dx,FF (rcur cur bra ket y) (rcc c bra ket y) (lm+(y.length - (ket - bra))) lb bra (bra+y.length))):=by
  refine' Au fn_slice_from rfl (.inr ⟨rfl,rfl⟩) (Aa (Ex.assert_ (Ac (Aj Zl (by rfl) f_bra (by rfl) Zn) Ae (i_ge_t (by lia)))) (Aa (Ex.assert_ (Ac (Aj Zl (by rfl) f_bra (by rfl) Zn) (Aj Zl (by rfl) f_ket (by rfl) Zn) (cS (by lia)))) (Aa (Ex.assert_ (Ac (Aj Zl (by rfl) f_ket (by rfl) Zn) (Aj Zl (by rfl) dD (by rfl) Zn) (cS (by lia)))) (Aa (Ex.assert_ (Ac (Aj Zl (by rfl) dD (by rfl) Zn) (Be (by rfl) (Aj Zl (by rfl) aU (by rfl) Zn)) (cS (by lia)))) (Aa (Bg (Av Zl (by rfl) (by rfl) m_replace_s (Ah (Aj Zl (by rfl) f_bra (by rfl) Zn) (Ah (Aj Zl (by rfl) f_ket (by rfl) Zn) (Ah Zl Aq))) (repl ⟨h.1,h.2.1,by lia⟩ h1 h2) (fun _=>⟨_,rfl⟩)) (by rfl) Zn) (Aa (Bx (Cb (Aj Zl (by rfl) f_bra (by rfl) Zn) (Be (by rfl) Zl)) Zl (by rfl) f_ket Zb cW Zn) Ad)))))) ?_
  rfl
theorem sldel {d:Nat} {x dx:Addr} {cur:T} {c lm lb bra ket:Int} (h:0≤bra∧bra≤ket∧ket≤lm∧lm=cur.length) (h1:(sl cur 0 bra++([]:T)).length≤lim) (h2:(sl cur 0 bra++([]:T)++sl cur ket cur.length).length≤lim):CallOK (d+3) 161 [.self x] (.some (x,dx,FF cur c lm lb bra ket)) (.none) (.some (x,dx,FF (rcur cur bra ket ([]:T)) (rcc c bra ket ([]:T)) (lm+(([]:T).length - (ket - bra))) lb bra (bra+([]:T).length))):=by
  refine' Au fn_slice_del rfl (.inl rfl) (Ab (Ax (Av Zl (by rfl) (by rfl) bD (Ah (Ar (x:=[]) (by rfl) Zb) Aq) (slfrom h h1 h2) (fun _=>⟨_,rfl⟩))) (by simp)) ?_
  rfl
noncomputable def nthS (l:List Stmt) (i:Nat):Stmt:=l.getD i (.Pass ⟨0,0,0,0⟩)
noncomputable def wTest (s:Stmt):Expr:=match s with
  | .While t _ _ _=>t
  | _=>.Constant .none 0 ⟨0,0,0,0⟩
noncomputable def cU (s:Stmt):List Stmt:=match s with
  | .While _ b _ _=>b
  | .For _ _ b _ _=>b
  | .Try b _ _ _ _=>b
  | .If _ b _ _=>b
  | _=>[]
theorem Whl.stepE {d:Nat} {sc:Scope} {test:Expr} {body:List Stmt} {f₁ fl:Fl} {st st₁ st₂ st₃ st':Sx} (h:Tst d sc test st true st₁) (hb:Exs d sc body st₁ f₁ st₂) (hf:f₁=.next∨f₁=.cont) (e:st₂=st₃) (hr:Whl d sc test body st₃ fl st'):Whl d sc test body st fl st' :=
  Whl.step h hb hf (e▸hr)
noncomputable def bP (cur:T) (l:List Nat):Nat→Option Nat
  | 0=>none
  | n+1=>if cur.getD n 0∈l then some (n+1) else bP cur l n
theorem lO {cur:T} {n:Nat} (h:n < cur.length):cur[n]?=some (cur.getD n 0):=by simp [List.getD,h]
theorem gogb_whl {d:Nat} {x dx:Addr} {cur:T} {lm bra ket:Int} {l:List Nat}:∀ n:Nat,n≤cur.length →
    Whl d (aE (stC 2 11)) (wTest (nthS (aG (stC 2 11)) 0)) (cU (nthS (aG (stC 2 11)) 0)) ⟨[("self",.self x),("s",.grp l)],.some (x,dx,FF cur n lm 0 bra ket)⟩
      (match bP cur l n with | some _=>.ret (.bool true) | none=>.next) ⟨[("self",.self x),("s",.grp l)],.some (x,dx,FF cur ((bP cur l n).getD 0:Nat) lm 0 bra ket)⟩
  | 0,_=>by
    show Whl _ _ _ _ _ .next _
    refine' (Whl.ff (Ac (Aj Zl (by rfl) aJ (by rfl) Zn) (Aj Zl (by rfl) aH (by rfl) Zn) (dT (by lia))))
  | n+1,h=>by
    have hc:cur[(((n+1:Nat):Int) - 1).toNat]?=some (cur.getD n 0):=by
      rw [show (((n+1:Nat):Int) - 1).toNat=n from by lia]
      exact lO h
    unfold bP
    by_cases hl:cur.getD n 0∈l
    · rw [if_pos hl]
      show Whl _ _ _ _ _ (.ret (.bool true)) _
      have hd:decide (cur.getD n 0∈l)=true:=decide_eq_true hl
      refine' Whl.ret (Ac (Aj Zl (by rfl) aJ (by rfl) Zn) (Aj Zl (by rfl) aH (by rfl) Zn) (eC (by lia))) (Ab (Ak (Ac (Bu (Aj Zl (by rfl) aU (by rfl) Zn) (Ag (Aj Zl (by rfl) aJ (by rfl) Zn) Ae) (by lia) (by first | assumption | (simp; assumption) | simp_all)) Zl (c_in (by first | assumption | (simp; assumption) | simp_all))) (Ab (Ax Ap) (by simp))) (by simp))
    · rw [if_neg hl]
      have hd:decide (cur.getD n 0∈l)=false:=decide_eq_false hl
      have e:((n+1:Nat):Int) - 1=n:=by lia
      refine' Whl.stepE (Ac (Aj Zl (by rfl) aJ (by rfl) Zn) (Aj Zl (by rfl) aH (by rfl) Zn) (eC (by lia))) (Aa (Af (Ac (Bu (Aj Zl (by rfl) aU (by rfl) Zn) (Ag (Aj Zl (by rfl) aJ (by rfl) Zn) Ae) (by lia) (by first | assumption | (simp; assumption) | simp_all)) Zl (c_in (by first | assumption | (simp; assumption) | simp_all))) Ad) (Aa (Ck Zl (by rfl) aJ (by rfl) Ae (by rfl) Zb) Ad)) (.inl rfl) ?_ (gogb_whl n (by lia))
      rw [e]
      rfl
theorem gogb_some {d:Nat} {x dx:Addr} {cur:T} {n k:Nat} {lm bra ket:Int} {l:List Nat} (h:n≤cur.length) (hk:bP cur l n=some k):CallOK (d+1) 112 [.self x,.grp l] (.some (x,dx,FF cur n lm 0 bra ket)) (.bool true) (.some (x,dx,FF cur k lm 0 bra ket)):=by
  have w:=gogb_whl (d:=d) (x:=x) (dx:=dx) (lm:=lm) (bra:=bra) (ket:=ket) (l:=l) n h
  rw [hk] at w
  exact Au fG rfl (.inl rfl) (Ab (Az w) (by simp)) rfl
theorem gogb_none {d:Nat} {x dx:Addr} {cur:T} {n:Nat} {lm bra ket:Int} {l:List Nat} (h:n≤cur.length) (hk:bP cur l n=none):CallOK (d+1) 112 [.self x,.grp l] (.some (x,dx,FF cur n lm 0 bra ket)) (.bool false) (.some (x,dx,FF cur 0 lm 0 bra ket)):=by
  have w:=gogb_whl (d:=d) (x:=x) (dx:=dx) (lm:=lm) (bra:=bra) (ket:=ket) (l:=l) n h
  rw [hk] at w
  exact Au fG rfl (.inl rfl) (Aa (Az w) (Ab (Ax Ap) (by simp))) rfl
noncomputable def Le (l l':Loc):Prop:=∀ x v,l.lookup x=some v→l'.lookup x=some v
theorem aP {l':Loc}:Le [] l':=fun x v h=>by cases h
theorem aD {a:Str} {u:SV} {l l':Loc} (h:l'.lookup a=some u) (hr:Le l l'):Le ((a,u)::l) l':=fun x v e=>by
  rw [cO] at e
  by_cases hx:x=a
  · rw [if_pos hx] at e; cases e; rw [hx]; exact h
  · rw [if_neg hx] at e; exact hr x v e
noncomputable def inn (e x:T):Nat→Nat→Int×Nat
  | 0,k=>(0,k)
  | n+1,k=>if k=x.length then (-1,k) else
    let dd:Int:=(x.getD k 0:Nat) - (e.getD k 0:Nat)
    if dd≠0 then (dd,k) else inn e x n (k+1)
theorem upTo_nil {a b:Int} (h:b≤a):upTo a b=[]:=by unfold upTo; rw [show (b - a).toNat=0 from by lia]; rfl
theorem upTo_cons {a b:Int} (h:a < b):upTo a b=.int a::upTo (a+1) b:=by
  unfold upTo
  rw [show (b - a).toNat=(b - (a+1)).toNat+1 from by lia,List.range_succ_eq_map,List.map_cons,List.map_map]
  congr 1
  · simp
  · apply List.map_congr_left
    intro i _
    show SV.int _=SV.int _
    congr 1
    lia
theorem downTo_nil {a b:Int} (h:a≤b):iF a b=[]:=by unfold iF; rw [show (a - b).toNat=0 from by lia]; rfl
theorem downTo_cons {a b:Int} (h:b < a):iF a b=.int a::iF (a - 1) b:=by
  unfold iF
  rw [show (a - b).toNat=(a - 1 - b).toNat+1 from by lia,List.range_succ_eq_map,List.map_cons,List.map_map]
  congr 1
  · simp
  · apply List.map_congr_left
    intro i _
    show SV.int _=SV.int _
    congr 1
    lia
noncomputable def LA (x:Addr) (t:List (T×Int×Int)) (i j c l ci cj:Int) (fk:Bool):Loc:=[("self",.self x),("v",.tab t),("i",.int i),("j",.int j),("c",.int c),("l",.int l),("common_i",.int ci),("common_j",.int cj),("first_key_inspected",.bool fk)]
noncomputable def LI (x:Addr) (t:List (T×Int×Int)) (i j c l ci cj:Int) (fk:Bool) (k df cm:Int) (e:T×Int×Int):Loc:=[("self",.self x),("v",.tab t),("i",.int i),("j",.int j),("c",.int c),("l",.int l),("common_i",.int ci),("common_j",.int cj),("first_key_inspected",.bool fk),("k",.int k),("diff",.int df),("common",.int cm),("w",.amg e)]
theorem fa_inn {d:Nat} {x dx:Addr} {t:List (T×Int×Int)} {e:T×Int×Int} {cur:T} {c:Nat} {c0 lm lb bra ket i j l ci cj kk:Int} {fk:Bool} (hc:c≤cur.length) (hl:l=cur.length) (he:e.1.length≤lim):∀ (n k:Nat) (df:Int),n+k=e.1.length→k≤(cur.drop c).length→df=0 →
    FRun d (aE (stC 2 14)) "i2" (cU (nthS (cU (nthS (aG (stC 2 14)) 7)) 4)) (upTo (k:Int) e.1.length) ⟨LI x t i j c l ci cj fk kk df k e,.some (x,dx,FF cur c0 lm lb bra ket)⟩ .next ⟨LI x t i j c l ci cj fk kk (inn e.1 (cur.drop c) n k).1 (inn e.1 (cur.drop c) n k).2 e,.some (x,dx,FF cur c0 lm lb bra ket)⟩
  | 0,k,df,hn,hk,hd=>by
    rw [(show (upTo (k:Int) e.1.length)=[] from by apply upTo_nil; lia)]
    subst hd
    exact .done
  | n+1,k,df,hn,hk,hd=>by
    have hlen:(cur.drop c).length=cur.length - c:=by simp
    rw [show (upTo (k:Int) e.1.length)=.int (k:Int)::(upTo ((k+1:Nat):Int) e.1.length) from by rw [upTo_cons (by lia)]; rfl]
    have hel:k < e.1.length:=by lia
    unfold inn
    by_cases h1:k=(cur.drop c).length
    · rw [if_pos h1]
      refine' FRun.brk _ (Ab (Ak (Ac (Cb Zl Zl) Zl (bY (by lia))) (Aa (Am (Cc Ae) (by rfl) Zn) (Ab Bq (by simp)))) (by simp)) (aD (by rfl) (aD (by rfl) (aD (by rfl) (aD (by rfl) (aD (by rfl) (aD (by rfl) (aD (by rfl) (aD (by rfl) (aD (by rfl) (aD (by rfl) (aD (by rfl) (aD (by rfl) (aD (by rfl) aP)))))))))))))
    · rw [if_neg h1]
      have hkx:c+k < cur.length:=by lia
      have hcur:cur[((c:Int)+k).toNat]?=some ((cur.drop c).getD k 0):=by
        rw [show ((c:Int)+k).toNat=c+k from by lia,List.getD_eq_getElem?_getD,List.getElem?_drop,List.getElem?_eq_getElem hkx]
        rfl
      have hew:e.1[((k:Int)).toNat]?=some (e.1.getD k 0):=by
        rw [show ((k:Int)).toNat=k from by lia,List.getD_eq_getElem?_getD,List.getElem?_eq_getElem hel]
        rfl
      by_cases h2:(((cur.drop c).getD k 0:Nat):Int) - ((e.1.getD k 0:Nat):Int)≠0
      · dsimp only
        rw [if_pos h2]
        refine' FRun.brk _ (Aa (Af (Ac (Cb Zl Zl) Zl (aI (by lia))) Ad) (Aa (Am (Ag (Ev.ord (by rfl) (Bu (Aj Zl (by rfl) aU (by rfl) Zn) (Cb Zl Zl) (by lia) (by first | assumption | (simp; assumption) | simp_all))) (Ev.ord (by rfl) (Bu (Bk Zl (by assumption) Zn) Zl (by lia) (by first | assumption | (simp; assumption) | simp_all)))) (by rfl) Zn) (Ab (Ak (Ac Zl Ae (i_ne_t (by lia))) (Ab Bq (by simp))) (by simp)))) (aD (by rfl) (aD (by rfl) (aD (by rfl) (aD (by rfl) (aD (by rfl) (aD (by rfl) (aD (by rfl) (aD (by rfl) (aD (by rfl) (aD (by rfl) (aD (by rfl) (aD (by rfl) (aD (by rfl) aP)))))))))))))
      · dsimp only
        rw [if_neg h2]
        have h3:(((cur.drop c).getD k 0:Nat):Int) - ((e.1.getD k 0:Nat):Int)=0:=Decidable.of_not_not h2
        refine' FRun.step (LI x t i j c l ci cj fk kk 0 ((k+1:Nat):Int) e) (Aa (Af (Ac (Cb Zl Zl) Zl (aI (by lia))) Ad) (Aa (Am (Ag (Ev.ord (by rfl) (Bu (Aj Zl (by rfl) aU (by rfl) Zn) (Cb Zl Zl) (by lia) (by first | assumption | (simp; assumption) | simp_all))) (Ev.ord (by rfl) (Bu (Bk Zl (by assumption) Zn) Zl (by lia) (by first | assumption | (simp; assumption) | simp_all)))) (by rfl) Zn) (Aa (Af (Ac Zl Ae (i_ne_f (by lia))) Ad) (Aa (Ex.augLAdd (by rfl) Ae (by rfl)) Ad)))) (.inl rfl) (aD (by rfl) (aD (by rfl) (aD (by rfl) (aD (by rfl) (aD (by rfl) (aD (by rfl) (aD (by rfl) (aD (by rfl) (aD (by rfl) (aD (by rfl) (aD (congrArg (fun z=>some (SV.int z)) h3) (aD (by rfl) (aD (by rfl) aP))))))))))))) (fa_inn hc hl he n (k+1) 0 (by lia) (by lia) rfl)
noncomputable def LA_b (x:Addr) (t:List (T×Int×Int)) (i j c l ci cj:Int) (fk:Bool):Loc:=[("self",.self x),("v",.tab t),("i",.int i),("j",.int j),("c",.int c),("lb",.int l),("common_i",.int ci),("common_j",.int cj),("first_key_inspected",.bool fk)]
noncomputable def LI_b (x:Addr) (t:List (T×Int×Int)) (i j c l ci cj:Int) (fk:Bool) (k df cm:Int) (e:T×Int×Int):Loc:=[("self",.self x),("v",.tab t),("i",.int i),("j",.int j),("c",.int c),("lb",.int l),("common_i",.int ci),("common_j",.int cj),("first_key_inspected",.bool fk),("k",.int k),("diff",.int df),("common",.int cm),("w",.amg e)]
theorem fa_inn_b {d:Nat} {x dx:Addr} {t:List (T×Int×Int)} {e:T×Int×Int} {cur:T} {c:Nat} {c0 lm lb bra ket i j l ci cj kk:Int} {fk:Bool} (hc:c≤cur.length) (hl:l=0) (he:e.1.length≤lim):∀ (n k:Nat) (df:Int),n+k=e.1.length→k≤(cur.take c).reverse.length→df=0 →
    FRun d (aE (stC 2 15)) "i2" (cU (nthS (cU (nthS (aG (stC 2 15)) 7)) 4)) (iF ((e.1.length:Int) - 1 - k) (-1)) ⟨LI_b x t i j c l ci cj fk kk df k e,.some (x,dx,FF cur c0 lm lb bra ket)⟩ .next ⟨LI_b x t i j c l ci cj fk kk (inn e.1.reverse (cur.take c).reverse n k).1 (inn e.1.reverse (cur.take c).reverse n k).2 e,.some (x,dx,FF cur c0 lm lb bra ket)⟩
  | 0,k,df,hn,hk,hd=>by
    rw [(show (iF ((e.1.length:Int) - 1 - k) (-1))=[] from by apply downTo_nil; lia)]
    subst hd
    exact .done
  | n+1,k,df,hn,hk,hd=>by
    have hlen:(cur.take c).reverse.length=c:=by simp; lia
    rw [show (iF ((e.1.length:Int) - 1 - k) (-1))=.int ((e.1.length:Int) - 1 - k)::(iF ((e.1.length:Int) - 1 - ((k+1:Nat):Int)) (-1)) from by rw [downTo_cons (by lia)]; congr 2; lia]
    have hel:k < e.1.length:=by lia
    unfold inn
    by_cases h1:k=(cur.take c).reverse.length
    · rw [if_pos h1]
      refine' FRun.brk _ (Ab (Ak (Ac (Ag Zl Zl) Zl (bY (by lia))) (Aa (Am (Cc Ae) (by rfl) Zn) (Ab Bq (by simp)))) (by simp)) (aD (by rfl) (aD (by rfl) (aD (by rfl) (aD (by rfl) (aD (by rfl) (aD (by rfl) (aD (by rfl) (aD (by rfl) (aD (by rfl) (aD (by rfl) (aD (by rfl) (aD (by rfl) (aD (by rfl) aP)))))))))))))
    · rw [if_neg h1]
      have hkx:k < c:=by lia
      have hcur:cur[((c:Int) - 1 - k).toNat]?=some ((cur.take c).reverse.getD k 0):=by
        rw [show ((c:Int) - 1 - k).toNat=c - 1 - k from by lia]
        rw [List.getD_eq_getElem?_getD,List.getElem?_reverse (by simp; lia),List.getElem?_take]
        simp only [List.length_take]
        rw [show min c cur.length - 1 - k=c - 1 - k from by lia,if_pos (by lia),List.getElem?_eq_getElem (by lia)]
        rfl
      have hew:e.1[((e.1.length:Int) - 1 - k).toNat]?=some (e.1.reverse.getD k 0):=by
        rw [show ((e.1.length:Int) - 1 - k).toNat=e.1.length - 1 - k from by lia]
        rw [List.getD_eq_getElem?_getD,List.getElem?_reverse hel,List.getElem?_eq_getElem (by lia)]
        rfl
      by_cases h2:(((cur.take c).reverse.getD k 0:Nat):Int) - ((e.1.reverse.getD k 0:Nat):Int)≠0
      · dsimp only
        rw [if_pos h2]
        refine' FRun.brk _ (Aa (Af (Ac (Ag Zl Zl) Zl (aI (by lia))) Ad) (Aa (Am (Ag (Ev.ord (by rfl) (Bu (Aj Zl (by rfl) aU (by rfl) Zn) (Ag (Ag Zl Ae) Zl) (by lia) (by first | assumption | (simp; assumption) | simp_all))) (Ev.ord (by rfl) (Bu (Bk Zl (by assumption) Zn) Zl (by lia) (by first | assumption | (simp; assumption) | simp_all)))) (by rfl) Zn) (Ab (Ak (Ac Zl Ae (i_ne_t (by lia))) (Ab Bq (by simp))) (by simp)))) (aD (by rfl) (aD (by rfl) (aD (by rfl) (aD (by rfl) (aD (by rfl) (aD (by rfl) (aD (by rfl) (aD (by rfl) (aD (by rfl) (aD (by rfl) (aD (by rfl) (aD (by rfl) (aD (by rfl) aP)))))))))))))
      · dsimp only
        rw [if_neg h2]
        have h3:(((cur.take c).reverse.getD k 0:Nat):Int) - ((e.1.reverse.getD k 0:Nat):Int)=0:=Decidable.of_not_not h2
        refine' FRun.step (LI_b x t i j c l ci cj fk kk 0 ((k+1:Nat):Int) e) (Aa (Af (Ac (Ag Zl Zl) Zl (aI (by lia))) Ad) (Aa (Am (Ag (Ev.ord (by rfl) (Bu (Aj Zl (by rfl) aU (by rfl) Zn) (Ag (Ag Zl Ae) Zl) (by lia) (by first | assumption | (simp; assumption) | simp_all))) (Ev.ord (by rfl) (Bu (Bk Zl (by assumption) Zn) Zl (by lia) (by first | assumption | (simp; assumption) | simp_all)))) (by rfl) Zn) (Aa (Af (Ac Zl Ae (i_ne_f (by lia))) Ad) (Aa (Ex.augLAdd (by rfl) Ae (by rfl)) Ad)))) (.inl rfl) (aD (by rfl) (aD (by rfl) (aD (by rfl) (aD (by rfl) (aD (by rfl) (aD (by rfl) (aD (by rfl) (aD (by rfl) (aD (by rfl) (aD (by rfl) (aD (congrArg (fun z=>some (SV.int z)) h3) (aD (by rfl) (aD (by rfl) aP))))))))))))) (fa_inn_b hc hl he n (k+1) 0 (by lia) (by lia) rfl)
theorem Fly.weak {c:Cx} {imm:List (Addr×Obj)} {st:Sx} {s:Shared} {l:Loc} {C:Addr} {e:Value} (h:Fly c imm st C e s) (hl:∀ x v,l.lookup x=some v→st.loc.lookup x=some v):Fly c imm { st with loc:=l } C e s:=by
  cases h with
  | raw G I M=>exact .raw G (I.weak hl) M
  | held G a0 I H U=>exact .held G a0 (I.weak hl) H U
theorem Exs.post {d:Nat} {sc:Scope} {b:List Stmt} {st st':Sx} {fl:Fl} (l:Loc) (h:Exs d sc b st fl st') (hl:Le l st'.loc):Exs d sc b st fl { st' with loc:=l }:=.mk fun c imm s O R hs I =>
  wpAny_mono (h.run c imm s O R hs I) (fun F s' q=>by
    cases fl with
    | next=>obtain ⟨a,i,x,q⟩:=q; exact ⟨a,i,x,q.weak hl⟩
    | brk=>obtain ⟨a,i,x,q⟩:=q; exact ⟨a,i,x,q.weak hl⟩
    | cont=>obtain ⟨a,i,x,q⟩:=q; exact ⟨a,i,x,q.weak hl⟩
    | ret v=>obtain ⟨V,a,i,x,q,r⟩:=q; exact ⟨V,a,i,x,q.weak hl,r⟩
    | exc C=>exact q) fun e s' q=>by
    cases fl with
    | exc C=>obtain ⟨i,x,q⟩:=q; exact ⟨i,x,q.weak hl⟩
    | _=>exact q
theorem Ev.eq {d:Nat} {sc:Scope} {e:Expr} {st st₁:Sx} {v v':SV} (h:Ev d sc e st v st₁) (e1:v=v'):Ev d sc e st v' st₁:=e1▸h
theorem Ex.as {d:Nat} {sc:Scope} {t:Stmt} {st st₁:Sx} {fl:Fl} (st₂:Sx) (h:Ex d sc t st fl st₁) (e:st₁=st₂):Ex d sc t st fl st₂:=e▸h
theorem inn_le (e x:T):∀ (n k:Nat),k≤x.length→(inn e x n k).2≤x.length
  | 0,k,h=>h
  | n+1,k,h=>by
    unfold inn
    by_cases h1:k=x.length
    · rw [if_pos h1]; exact h
    · rw [if_neg h1]
      dsimp only
      split
      · exact h
      · exact inn_le e x n (k+1) (by lia)
noncomputable def outr (rv:T→T) (t:List (T×Int×Int)) (x:T):Nat→Nat→Nat→Nat→Nat→Bool→Option (Nat×Nat)
  | 0,_,_,_,_,_=>none
  | n+1,i,j,ci,cj,fk=>match t[i+(j - i) / 2]? with
    | none=>none
    | some e=>if e.1.length < min ci cj then none else
      match inn (rv e.1) x (e.1.length - min ci cj) (min ci cj) with
      | (df,cm) =>
        if df < 0 then
          (if i+(j - i) / 2 - i≤1 then (if 0 < i then some (i,ci) else if i+(j - i) / 2=i then some (i,ci) else if fk then some (i,ci) else outr rv t x n i (i+(j - i) / 2) ci cm true) else outr rv t x n i (i+(j - i) / 2) ci cm fk)
        else
          (if j - (i+(j - i) / 2)≤1 then (if 0 < i+(j - i) / 2 then some (i+(j - i) / 2,cm) else if j=i+(j - i) / 2 then some (i+(j - i) / 2,cm) else if fk then some (i+(j - i) / 2,cm) else outr rv t x n (i+(j - i) / 2) j cm cj true) else outr rv t x n (i+(j - i) / 2) j cm cj fk)
noncomputable def chase (t:List (T×Int×Int)) (ci:Nat):Nat→Nat→Option (Option (T×Int×Int))
  | 0,_=>none
  | n+1,i=>match t[i]? with
    | none=>none
    | some e=>if e.1.length≤ci then some (some e) else if e.2.1 < 0 then some none else chase t ci n e.2.1.toNat
noncomputable def LZ (x:Addr) (t:List (T×Int×Int)) (i c ci:Int):Loc:=[("self",.self x),("v",.tab t),("i",.int i),("c",.int c),("common_i",.int ci)]
theorem fa_out {d:Nat} {x dx:Addr} {t:List (T×Int×Int)} {cur:T} {c:Nat} {c0 lm lb bra ket:Int} (hc:c≤cur.length) (hcl:cur.length≤65536) (hall:∀ e∈t,e.1.length≤lim) (htl:t.length≤1000) :
    ∀ (n i j ci cj:Nat) (fk:Bool) (R:Nat×Nat),outr id t (cur.drop c) n i j ci cj fk=some R→i≤j→j≤t.length→ci≤(cur.drop c).length→cj≤(cur.drop c).length →
    Whl d (aE (stC 2 14)) (wTest (nthS (aG (stC 2 14)) 7)) (cU (nthS (aG (stC 2 14)) 7)) ⟨LA x t i j c cur.length ci cj fk,.some (x,dx,FF cur c0 lm lb bra ket)⟩ .next ⟨LZ x t R.1 c R.2,.some (x,dx,FF cur c0 lm lb bra ket)⟩
  | 0,_,_,_,_,_,_,hR,_,_,_,_=>by cases hR
  | n+1,i,j,ci,cj,fk,R,hR,hij,hj,hci,hcj=>by
    unfold outr at hR
    have hlim:lim=65536:=rfl
    cases hte:t[i+(j - i) / 2]? with
    | none=>rw [hte] at hR; cases hR
    | some e =>
      rw [hte] at hR
      dsimp only at hR
      by_cases hel:e.1.length < min ci cj
      · rw [if_pos hel] at hR; cases hR
      rw [if_neg hel] at hR
      have he:e.1.length≤lim:=hall e (List.mem_of_getElem? hte)
      have hxl:(cur.drop c).length≤cur.length:=by first | (simp; done) | (simp; lia)
      obtain ⟨kk,hkk⟩:∃ kk,kk=i+(j - i) / 2:=⟨_,rfl⟩
      obtain ⟨cm,hcm⟩:∃ cm,cm=min ci cj:=⟨_,rfl⟩
      have ek:SV.int ((i:Int)+((j:Int) - i) / 2)=SV.int ((kk:Nat):Int):=by rw [hkk]; congr 1; lia
      have em:SV.int (if (cj:Int) < ci then (cj:Int) else (ci:Int))=SV.int ((cm:Nat):Int):=by
        rw [hcm]
        congr 1
        split <;> lia
      rw [← hkk] at hR hte
      rw [← hcm] at hR hel
      have hx:t[((kk:Nat):Int).toNat]?=some e:=by rw [Int.toNat_natCast]; exact hte
      have hcmx:cm≤(cur.drop c).length:=by lia
      have hFR:=fa_inn (d:=d) (x:=x) (dx:=dx) (t:=t) (c0:=c0) (lm:=lm) (lb:=lb) (bra:=bra) (ket:=ket) (i:=i) (j:=j) (ci:=ci) (cj:=cj) (kk:=kk) (fk:=fk) hc (rfl:(cur.length:Int)=cur.length) he (e.1.length - cm) cm 0 (by lia) hcmx rfl
      have hle:=inn_le e.1 (cur.drop c) (e.1.length - cm) cm hcmx
      have hinn:inn (id e.1) (cur.drop c) (e.1.length - cm) cm=inn e.1 (cur.drop c) (e.1.length - cm) cm:=rfl
      rw [hinn] at hR
      generalize inn e.1 (cur.drop c) (e.1.length - cm) cm=r at hR hFR hle
      obtain ⟨df,cm'⟩:=r
      dsimp only at hR hFR hle
      by_cases hdf:df < 0
      · rw [if_pos hdf] at hR
        by_cases h1:kk - i≤1
        · rw [if_pos h1] at hR
          by_cases h2:0 < i
          · rw [if_pos h2] at hR
            cases hR
            refine' Bi (Ai Ap Zn) (Exs.post (LZ x t i c ci) (Aa (Ex.as ⟨[("self",.self x),("v",.tab t),("i",.int i),("j",.int j),("c",.int c),("l",.int cur.length),("common_i",.int ci),("common_j",.int cj),("first_key_inspected",.bool fk),("k",.int kk)],.some (x,dx,FF cur c0 lm lb bra ket)⟩ (Am (Ev.eq (Cb Zl (Ev.shr (Ag Zl Zl) Ae (by lia))) ek) (by rfl) Zn) (by rfl)) (Aa (Ex.as ⟨[("self",.self x),("v",.tab t),("i",.int i),("j",.int j),("c",.int c),("l",.int cur.length),("common_i",.int ci),("common_j",.int cj),("first_key_inspected",.bool fk),("k",.int kk),("diff",.int 0)],.some (x,dx,FF cur c0 lm lb bra ket)⟩ (Am Ae (by rfl) Zn) (by rfl)) (Aa (Ex.as ⟨[("self",.self x),("v",.tab t),("i",.int i),("j",.int j),("c",.int c),("l",.int cur.length),("common_i",.int ci),("common_j",.int cj),("first_key_inspected",.bool fk),("k",.int kk),("diff",.int 0),("common",.int cm)],.some (x,dx,FF cur c0 lm lb bra ket)⟩ (Am (Ev.eq (Ev.min (by rfl) Zl Zl) em) (by rfl) Zn) (by rfl)) (Aa (Ex.as ⟨LI x t i j c cur.length ci cj fk kk 0 cm e,.some (x,dx,FF cur c0 lm lb bra ket)⟩ (Am (Br Zl Zl (by lia) (by assumption) (by assumption)) (by rfl) Zn) (by rfl)) (Aa (Ex.forUp (by rfl) Zl (Be (by rfl) (Bk Zl (by assumption) Zn)) (by rfl) (by lia) (by lia) hFR) (Aa (Ak (Ac Zl Ae (eR (by lia))) (Aa (Am Zl (by rfl) Zn) (Aa (Am Zl (by rfl) Zn) Ad))) (Ab (Ak (Ac (Ag Zl Zl) Ae (cS (by lia))) (Ab (Ak (Ac Zl Ae (eC (by lia))) (Ab Bq (by simp))) (by simp))) (by simp)))))))) (aD (by rfl) (aD (by rfl) (aD (by rfl) (aD (by rfl) (aD (by rfl) aP))))))
          rw [if_neg h2] at hR
          by_cases h3:kk=i
          · rw [if_pos h3] at hR
            cases hR
            refine' Bi (Ai Ap Zn) (Exs.post (LZ x t i c ci) (Aa (Ex.as ⟨[("self",.self x),("v",.tab t),("i",.int i),("j",.int j),("c",.int c),("l",.int cur.length),("common_i",.int ci),("common_j",.int cj),("first_key_inspected",.bool fk),("k",.int kk)],.some (x,dx,FF cur c0 lm lb bra ket)⟩ (Am (Ev.eq (Cb Zl (Ev.shr (Ag Zl Zl) Ae (by lia))) ek) (by rfl) Zn) (by rfl)) (Aa (Ex.as ⟨[("self",.self x),("v",.tab t),("i",.int i),("j",.int j),("c",.int c),("l",.int cur.length),("common_i",.int ci),("common_j",.int cj),("first_key_inspected",.bool fk),("k",.int kk),("diff",.int 0)],.some (x,dx,FF cur c0 lm lb bra ket)⟩ (Am Ae (by rfl) Zn) (by rfl)) (Aa (Ex.as ⟨[("self",.self x),("v",.tab t),("i",.int i),("j",.int j),("c",.int c),("l",.int cur.length),("common_i",.int ci),("common_j",.int cj),("first_key_inspected",.bool fk),("k",.int kk),("diff",.int 0),("common",.int cm)],.some (x,dx,FF cur c0 lm lb bra ket)⟩ (Am (Ev.eq (Ev.min (by rfl) Zl Zl) em) (by rfl) Zn) (by rfl)) (Aa (Ex.as ⟨LI x t i j c cur.length ci cj fk kk 0 cm e,.some (x,dx,FF cur c0 lm lb bra ket)⟩ (Am (Br Zl Zl (by lia) (by assumption) (by assumption)) (by rfl) Zn) (by rfl)) (Aa (Ex.forUp (by rfl) Zl (Be (by rfl) (Bk Zl (by assumption) Zn)) (by rfl) (by lia) (by lia) hFR) (Aa (Ak (Ac Zl Ae (eR (by lia))) (Aa (Am Zl (by rfl) Zn) (Aa (Am Zl (by rfl) Zn) Ad))) (Ab (Ak (Ac (Ag Zl Zl) Ae (cS (by lia))) (Aa (Af (Ac Zl Ae (dT (by lia))) Ad) (Ab (Ak (Ac Zl Zl (bY (by lia))) (Ab Bq (by simp))) (by simp)))) (by simp)))))))) (aD (by rfl) (aD (by rfl) (aD (by rfl) (aD (by rfl) (aD (by rfl) aP))))))
          rw [if_neg h3] at hR
          cases fk with
          | true =>
            cases hR
            refine' Bi (Ai Ap Zn) (Exs.post (LZ x t i c ci) (Aa (Ex.as ⟨[("self",.self x),("v",.tab t),("i",.int i),("j",.int j),("c",.int c),("l",.int cur.length),("common_i",.int ci),("common_j",.int cj),("first_key_inspected",.bool true),("k",.int kk)],.some (x,dx,FF cur c0 lm lb bra ket)⟩ (Am (Ev.eq (Cb Zl (Ev.shr (Ag Zl Zl) Ae (by lia))) ek) (by rfl) Zn) (by rfl)) (Aa (Ex.as ⟨[("self",.self x),("v",.tab t),("i",.int i),("j",.int j),("c",.int c),("l",.int cur.length),("common_i",.int ci),("common_j",.int cj),("first_key_inspected",.bool true),("k",.int kk),("diff",.int 0)],.some (x,dx,FF cur c0 lm lb bra ket)⟩ (Am Ae (by rfl) Zn) (by rfl)) (Aa (Ex.as ⟨[("self",.self x),("v",.tab t),("i",.int i),("j",.int j),("c",.int c),("l",.int cur.length),("common_i",.int ci),("common_j",.int cj),("first_key_inspected",.bool true),("k",.int kk),("diff",.int 0),("common",.int cm)],.some (x,dx,FF cur c0 lm lb bra ket)⟩ (Am (Ev.eq (Ev.min (by rfl) Zl Zl) em) (by rfl) Zn) (by rfl)) (Aa (Ex.as ⟨LI x t i j c cur.length ci cj true kk 0 cm e,.some (x,dx,FF cur c0 lm lb bra ket)⟩ (Am (Br Zl Zl (by lia) (by assumption) (by assumption)) (by rfl) Zn) (by rfl)) (Aa (Ex.forUp (by rfl) Zl (Be (by rfl) (Bk Zl (by assumption) Zn)) (by rfl) (by lia) (by lia) hFR) (Aa (Ak (Ac Zl Ae (eR (by lia))) (Aa (Am Zl (by rfl) Zn) (Aa (Am Zl (by rfl) Zn) Ad))) (Ab (Ak (Ac (Ag Zl Zl) Ae (cS (by lia))) (Aa (Af (Ac Zl Ae (dT (by lia))) Ad) (Aa (Af (Ac Zl Zl (aI (by lia))) Ad) (Ab (Ak (Ai Zl Zn) (Ab Bq (by simp))) (by simp))))) (by simp)))))))) (aD (by rfl) (aD (by rfl) (aD (by rfl) (aD (by rfl) (aD (by rfl) aP))))))
          | false =>
            rw [if_neg (by decide)] at hR
            refine' Whl.step (Ai Ap Zn) (Exs.post (LA x t i kk c cur.length ci cm' true) (Aa (Ex.as ⟨[("self",.self x),("v",.tab t),("i",.int i),("j",.int j),("c",.int c),("l",.int cur.length),("common_i",.int ci),("common_j",.int cj),("first_key_inspected",.bool false),("k",.int kk)],.some (x,dx,FF cur c0 lm lb bra ket)⟩ (Am (Ev.eq (Cb Zl (Ev.shr (Ag Zl Zl) Ae (by lia))) ek) (by rfl) Zn) (by rfl)) (Aa (Ex.as ⟨[("self",.self x),("v",.tab t),("i",.int i),("j",.int j),("c",.int c),("l",.int cur.length),("common_i",.int ci),("common_j",.int cj),("first_key_inspected",.bool false),("k",.int kk),("diff",.int 0)],.some (x,dx,FF cur c0 lm lb bra ket)⟩ (Am Ae (by rfl) Zn) (by rfl)) (Aa (Ex.as ⟨[("self",.self x),("v",.tab t),("i",.int i),("j",.int j),("c",.int c),("l",.int cur.length),("common_i",.int ci),("common_j",.int cj),("first_key_inspected",.bool false),("k",.int kk),("diff",.int 0),("common",.int cm)],.some (x,dx,FF cur c0 lm lb bra ket)⟩ (Am (Ev.eq (Ev.min (by rfl) Zl Zl) em) (by rfl) Zn) (by rfl)) (Aa (Ex.as ⟨LI x t i j c cur.length ci cj false kk 0 cm e,.some (x,dx,FF cur c0 lm lb bra ket)⟩ (Am (Br Zl Zl (by lia) (by assumption) (by assumption)) (by rfl) Zn) (by rfl)) (Aa (Ex.forUp (by rfl) Zl (Be (by rfl) (Bk Zl (by assumption) Zn)) (by rfl) (by lia) (by lia) hFR) (Aa (Ak (Ac Zl Ae (eR (by lia))) (Aa (Am Zl (by rfl) Zn) (Aa (Am Zl (by rfl) Zn) Ad))) (Aa (Ak (Ac (Ag Zl Zl) Ae (cS (by lia))) (Aa (Af (Ac Zl Ae (dT (by lia))) Ad) (Aa (Af (Ac Zl Zl (aI (by lia))) Ad) (Aa (Af (Ai Zl Zn) Ad) (Aa (Am Ap (by rfl) Zn) Ad))))) Ad))))))) (aD (by rfl) (aD (by rfl) (aD (by rfl) (aD (by rfl) (aD (by rfl) (aD (by rfl) (aD (by rfl) (aD (by rfl) (aD (by rfl) aP)))))))))) (.inl rfl) (fa_out hc hcl hall htl n i kk ci cm' true R hR (by lia) (by lia) (by lia) (by lia))
        · rw [if_neg h1] at hR
          refine' Whl.step (Ai Ap Zn) (Exs.post (LA x t i kk c cur.length ci cm' fk) (Aa (Ex.as ⟨[("self",.self x),("v",.tab t),("i",.int i),("j",.int j),("c",.int c),("l",.int cur.length),("common_i",.int ci),("common_j",.int cj),("first_key_inspected",.bool fk),("k",.int kk)],.some (x,dx,FF cur c0 lm lb bra ket)⟩ (Am (Ev.eq (Cb Zl (Ev.shr (Ag Zl Zl) Ae (by lia))) ek) (by rfl) Zn) (by rfl)) (Aa (Ex.as ⟨[("self",.self x),("v",.tab t),("i",.int i),("j",.int j),("c",.int c),("l",.int cur.length),("common_i",.int ci),("common_j",.int cj),("first_key_inspected",.bool fk),("k",.int kk),("diff",.int 0)],.some (x,dx,FF cur c0 lm lb bra ket)⟩ (Am Ae (by rfl) Zn) (by rfl)) (Aa (Ex.as ⟨[("self",.self x),("v",.tab t),("i",.int i),("j",.int j),("c",.int c),("l",.int cur.length),("common_i",.int ci),("common_j",.int cj),("first_key_inspected",.bool fk),("k",.int kk),("diff",.int 0),("common",.int cm)],.some (x,dx,FF cur c0 lm lb bra ket)⟩ (Am (Ev.eq (Ev.min (by rfl) Zl Zl) em) (by rfl) Zn) (by rfl)) (Aa (Ex.as ⟨LI x t i j c cur.length ci cj fk kk 0 cm e,.some (x,dx,FF cur c0 lm lb bra ket)⟩ (Am (Br Zl Zl (by lia) (by assumption) (by assumption)) (by rfl) Zn) (by rfl)) (Aa (Ex.forUp (by rfl) Zl (Be (by rfl) (Bk Zl (by assumption) Zn)) (by rfl) (by lia) (by lia) hFR) (Aa (Ak (Ac Zl Ae (eR (by lia))) (Aa (Am Zl (by rfl) Zn) (Aa (Am Zl (by rfl) Zn) Ad))) (Aa (Af (Ac (Ag Zl Zl) Ae (dF (by lia))) Ad) Ad))))))) (aD (by rfl) (aD (by rfl) (aD (by rfl) (aD (by rfl) (aD (by rfl) (aD (by rfl) (aD (by rfl) (aD (by rfl) (aD (by rfl) aP)))))))))) (.inl rfl) (fa_out hc hcl hall htl n i kk ci cm' fk R hR (by lia) (by lia) (by lia) (by lia))
      · rw [if_neg hdf] at hR
        by_cases h1:j - kk≤1
        · rw [if_pos h1] at hR
          by_cases h2:0 < kk
          · rw [if_pos h2] at hR
            cases hR
            refine' Bi (Ai Ap Zn) (Exs.post (LZ x t kk c cm') (Aa (Ex.as ⟨[("self",.self x),("v",.tab t),("i",.int i),("j",.int j),("c",.int c),("l",.int cur.length),("common_i",.int ci),("common_j",.int cj),("first_key_inspected",.bool fk),("k",.int kk)],.some (x,dx,FF cur c0 lm lb bra ket)⟩ (Am (Ev.eq (Cb Zl (Ev.shr (Ag Zl Zl) Ae (by lia))) ek) (by rfl) Zn) (by rfl)) (Aa (Ex.as ⟨[("self",.self x),("v",.tab t),("i",.int i),("j",.int j),("c",.int c),("l",.int cur.length),("common_i",.int ci),("common_j",.int cj),("first_key_inspected",.bool fk),("k",.int kk),("diff",.int 0)],.some (x,dx,FF cur c0 lm lb bra ket)⟩ (Am Ae (by rfl) Zn) (by rfl)) (Aa (Ex.as ⟨[("self",.self x),("v",.tab t),("i",.int i),("j",.int j),("c",.int c),("l",.int cur.length),("common_i",.int ci),("common_j",.int cj),("first_key_inspected",.bool fk),("k",.int kk),("diff",.int 0),("common",.int cm)],.some (x,dx,FF cur c0 lm lb bra ket)⟩ (Am (Ev.eq (Ev.min (by rfl) Zl Zl) em) (by rfl) Zn) (by rfl)) (Aa (Ex.as ⟨LI x t i j c cur.length ci cj fk kk 0 cm e,.some (x,dx,FF cur c0 lm lb bra ket)⟩ (Am (Br Zl Zl (by lia) (by assumption) (by assumption)) (by rfl) Zn) (by rfl)) (Aa (Ex.forUp (by rfl) Zl (Be (by rfl) (Bk Zl (by assumption) Zn)) (by rfl) (by lia) (by lia) hFR) (Aa (Af (Ac Zl Ae (fQ (by lia))) (Aa (Am Zl (by rfl) Zn) (Aa (Am Zl (by rfl) Zn) Ad))) (Ab (Ak (Ac (Ag Zl Zl) Ae (cS (by lia))) (Ab (Ak (Ac Zl Ae (eC (by lia))) (Ab Bq (by simp))) (by simp))) (by simp)))))))) (aD (by rfl) (aD (by rfl) (aD (by rfl) (aD (by rfl) (aD (by rfl) aP))))))
          rw [if_neg h2] at hR
          by_cases h3:j=kk
          · rw [if_pos h3] at hR
            cases hR
            refine' Bi (Ai Ap Zn) (Exs.post (LZ x t kk c cm') (Aa (Ex.as ⟨[("self",.self x),("v",.tab t),("i",.int i),("j",.int j),("c",.int c),("l",.int cur.length),("common_i",.int ci),("common_j",.int cj),("first_key_inspected",.bool fk),("k",.int kk)],.some (x,dx,FF cur c0 lm lb bra ket)⟩ (Am (Ev.eq (Cb Zl (Ev.shr (Ag Zl Zl) Ae (by lia))) ek) (by rfl) Zn) (by rfl)) (Aa (Ex.as ⟨[("self",.self x),("v",.tab t),("i",.int i),("j",.int j),("c",.int c),("l",.int cur.length),("common_i",.int ci),("common_j",.int cj),("first_key_inspected",.bool fk),("k",.int kk),("diff",.int 0)],.some (x,dx,FF cur c0 lm lb bra ket)⟩ (Am Ae (by rfl) Zn) (by rfl)) (Aa (Ex.as ⟨[("self",.self x),("v",.tab t),("i",.int i),("j",.int j),("c",.int c),("l",.int cur.length),("common_i",.int ci),("common_j",.int cj),("first_key_inspected",.bool fk),("k",.int kk),("diff",.int 0),("common",.int cm)],.some (x,dx,FF cur c0 lm lb bra ket)⟩ (Am (Ev.eq (Ev.min (by rfl) Zl Zl) em) (by rfl) Zn) (by rfl)) (Aa (Ex.as ⟨LI x t i j c cur.length ci cj fk kk 0 cm e,.some (x,dx,FF cur c0 lm lb bra ket)⟩ (Am (Br Zl Zl (by lia) (by assumption) (by assumption)) (by rfl) Zn) (by rfl)) (Aa (Ex.forUp (by rfl) Zl (Be (by rfl) (Bk Zl (by assumption) Zn)) (by rfl) (by lia) (by lia) hFR) (Aa (Af (Ac Zl Ae (fQ (by lia))) (Aa (Am Zl (by rfl) Zn) (Aa (Am Zl (by rfl) Zn) Ad))) (Ab (Ak (Ac (Ag Zl Zl) Ae (cS (by lia))) (Aa (Af (Ac Zl Ae (dT (by lia))) Ad) (Ab (Ak (Ac Zl Zl (bY (by lia))) (Ab Bq (by simp))) (by simp)))) (by simp)))))))) (aD (by rfl) (aD (by rfl) (aD (by rfl) (aD (by rfl) (aD (by rfl) aP))))))
          rw [if_neg h3] at hR
          cases fk with
          | true =>
            cases hR
            refine' Bi (Ai Ap Zn) (Exs.post (LZ x t kk c cm') (Aa (Ex.as ⟨[("self",.self x),("v",.tab t),("i",.int i),("j",.int j),("c",.int c),("l",.int cur.length),("common_i",.int ci),("common_j",.int cj),("first_key_inspected",.bool true),("k",.int kk)],.some (x,dx,FF cur c0 lm lb bra ket)⟩ (Am (Ev.eq (Cb Zl (Ev.shr (Ag Zl Zl) Ae (by lia))) ek) (by rfl) Zn) (by rfl)) (Aa (Ex.as ⟨[("self",.self x),("v",.tab t),("i",.int i),("j",.int j),("c",.int c),("l",.int cur.length),("common_i",.int ci),("common_j",.int cj),("first_key_inspected",.bool true),("k",.int kk),("diff",.int 0)],.some (x,dx,FF cur c0 lm lb bra ket)⟩ (Am Ae (by rfl) Zn) (by rfl)) (Aa (Ex.as ⟨[("self",.self x),("v",.tab t),("i",.int i),("j",.int j),("c",.int c),("l",.int cur.length),("common_i",.int ci),("common_j",.int cj),("first_key_inspected",.bool true),("k",.int kk),("diff",.int 0),("common",.int cm)],.some (x,dx,FF cur c0 lm lb bra ket)⟩ (Am (Ev.eq (Ev.min (by rfl) Zl Zl) em) (by rfl) Zn) (by rfl)) (Aa (Ex.as ⟨LI x t i j c cur.length ci cj true kk 0 cm e,.some (x,dx,FF cur c0 lm lb bra ket)⟩ (Am (Br Zl Zl (by lia) (by assumption) (by assumption)) (by rfl) Zn) (by rfl)) (Aa (Ex.forUp (by rfl) Zl (Be (by rfl) (Bk Zl (by assumption) Zn)) (by rfl) (by lia) (by lia) hFR) (Aa (Af (Ac Zl Ae (fQ (by lia))) (Aa (Am Zl (by rfl) Zn) (Aa (Am Zl (by rfl) Zn) Ad))) (Ab (Ak (Ac (Ag Zl Zl) Ae (cS (by lia))) (Aa (Af (Ac Zl Ae (dT (by lia))) Ad) (Aa (Af (Ac Zl Zl (aI (by lia))) Ad) (Ab (Ak (Ai Zl Zn) (Ab Bq (by simp))) (by simp))))) (by simp)))))))) (aD (by rfl) (aD (by rfl) (aD (by rfl) (aD (by rfl) (aD (by rfl) aP))))))
          | false =>
            rw [if_neg (by decide)] at hR
            refine' Whl.step (Ai Ap Zn) (Exs.post (LA x t kk j c cur.length cm' cj true) (Aa (Ex.as ⟨[("self",.self x),("v",.tab t),("i",.int i),("j",.int j),("c",.int c),("l",.int cur.length),("common_i",.int ci),("common_j",.int cj),("first_key_inspected",.bool false),("k",.int kk)],.some (x,dx,FF cur c0 lm lb bra ket)⟩ (Am (Ev.eq (Cb Zl (Ev.shr (Ag Zl Zl) Ae (by lia))) ek) (by rfl) Zn) (by rfl)) (Aa (Ex.as ⟨[("self",.self x),("v",.tab t),("i",.int i),("j",.int j),("c",.int c),("l",.int cur.length),("common_i",.int ci),("common_j",.int cj),("first_key_inspected",.bool false),("k",.int kk),("diff",.int 0)],.some (x,dx,FF cur c0 lm lb bra ket)⟩ (Am Ae (by rfl) Zn) (by rfl)) (Aa (Ex.as ⟨[("self",.self x),("v",.tab t),("i",.int i),("j",.int j),("c",.int c),("l",.int cur.length),("common_i",.int ci),("common_j",.int cj),("first_key_inspected",.bool false),("k",.int kk),("diff",.int 0),("common",.int cm)],.some (x,dx,FF cur c0 lm lb bra ket)⟩ (Am (Ev.eq (Ev.min (by rfl) Zl Zl) em) (by rfl) Zn) (by rfl)) (Aa (Ex.as ⟨LI x t i j c cur.length ci cj false kk 0 cm e,.some (x,dx,FF cur c0 lm lb bra ket)⟩ (Am (Br Zl Zl (by lia) (by assumption) (by assumption)) (by rfl) Zn) (by rfl)) (Aa (Ex.forUp (by rfl) Zl (Be (by rfl) (Bk Zl (by assumption) Zn)) (by rfl) (by lia) (by lia) hFR) (Aa (Af (Ac Zl Ae (fQ (by lia))) (Aa (Am Zl (by rfl) Zn) (Aa (Am Zl (by rfl) Zn) Ad))) (Aa (Ak (Ac (Ag Zl Zl) Ae (cS (by lia))) (Aa (Af (Ac Zl Ae (dT (by lia))) Ad) (Aa (Af (Ac Zl Zl (aI (by lia))) Ad) (Aa (Af (Ai Zl Zn) Ad) (Aa (Am Ap (by rfl) Zn) Ad))))) Ad))))))) (aD (by rfl) (aD (by rfl) (aD (by rfl) (aD (by rfl) (aD (by rfl) (aD (by rfl) (aD (by rfl) (aD (by rfl) (aD (by rfl) aP)))))))))) (.inl rfl) (fa_out hc hcl hall htl n kk j cm' cj true R hR (by lia) (by lia) (by lia) (by lia))
        · rw [if_neg h1] at hR
          refine' Whl.step (Ai Ap Zn) (Exs.post (LA x t kk j c cur.length cm' cj fk) (Aa (Ex.as ⟨[("self",.self x),("v",.tab t),("i",.int i),("j",.int j),("c",.int c),("l",.int cur.length),("common_i",.int ci),("common_j",.int cj),("first_key_inspected",.bool fk),("k",.int kk)],.some (x,dx,FF cur c0 lm lb bra ket)⟩ (Am (Ev.eq (Cb Zl (Ev.shr (Ag Zl Zl) Ae (by lia))) ek) (by rfl) Zn) (by rfl)) (Aa (Ex.as ⟨[("self",.self x),("v",.tab t),("i",.int i),("j",.int j),("c",.int c),("l",.int cur.length),("common_i",.int ci),("common_j",.int cj),("first_key_inspected",.bool fk),("k",.int kk),("diff",.int 0)],.some (x,dx,FF cur c0 lm lb bra ket)⟩ (Am Ae (by rfl) Zn) (by rfl)) (Aa (Ex.as ⟨[("self",.self x),("v",.tab t),("i",.int i),("j",.int j),("c",.int c),("l",.int cur.length),("common_i",.int ci),("common_j",.int cj),("first_key_inspected",.bool fk),("k",.int kk),("diff",.int 0),("common",.int cm)],.some (x,dx,FF cur c0 lm lb bra ket)⟩ (Am (Ev.eq (Ev.min (by rfl) Zl Zl) em) (by rfl) Zn) (by rfl)) (Aa (Ex.as ⟨LI x t i j c cur.length ci cj fk kk 0 cm e,.some (x,dx,FF cur c0 lm lb bra ket)⟩ (Am (Br Zl Zl (by lia) (by assumption) (by assumption)) (by rfl) Zn) (by rfl)) (Aa (Ex.forUp (by rfl) Zl (Be (by rfl) (Bk Zl (by assumption) Zn)) (by rfl) (by lia) (by lia) hFR) (Aa (Af (Ac Zl Ae (fQ (by lia))) (Aa (Am Zl (by rfl) Zn) (Aa (Am Zl (by rfl) Zn) Ad))) (Aa (Af (Ac (Ag Zl Zl) Ae (dF (by lia))) Ad) Ad))))))) (aD (by rfl) (aD (by rfl) (aD (by rfl) (aD (by rfl) (aD (by rfl) (aD (by rfl) (aD (by rfl) (aD (by rfl) (aD (by rfl) aP)))))))))) (.inl rfl) (fa_out hc hcl hall htl n kk j cm' cj fk R hR (by lia) (by lia) (by lia) (by lia))
theorem kW {d:Nat} {x dx:Addr} {t:List (T×Int×Int)} {cur:T} {c:Nat} {c0 lm lb bra ket:Int} (hc:c≤cur.length) (hcl:cur.length≤65536) (hall:∀ e∈t,e.1.length≤lim) (htl:t.length≤1000) :
    ∀ (n i j ci cj:Nat) (fk:Bool) (R:Nat×Nat),outr List.reverse t (cur.take c).reverse n i j ci cj fk=some R→i≤j→j≤t.length→ci≤(cur.take c).reverse.length→cj≤(cur.take c).reverse.length →
    Whl d (aE (stC 2 15)) (wTest (nthS (aG (stC 2 15)) 7)) (cU (nthS (aG (stC 2 15)) 7)) ⟨LA_b x t i j c 0 ci cj fk,.some (x,dx,FF cur c0 lm lb bra ket)⟩ .next ⟨LZ x t R.1 c R.2,.some (x,dx,FF cur c0 lm lb bra ket)⟩
  | 0,_,_,_,_,_,_,hR,_,_,_,_=>by cases hR
  | n+1,i,j,ci,cj,fk,R,hR,hij,hj,hci,hcj=>by
    unfold outr at hR
    have hlim:lim=65536:=rfl
    cases hte:t[i+(j - i) / 2]? with
    | none=>rw [hte] at hR; cases hR
    | some e =>
      rw [hte] at hR
      dsimp only at hR
      by_cases hel:e.1.length < min ci cj
      · rw [if_pos hel] at hR; cases hR
      rw [if_neg hel] at hR
      have he:e.1.length≤lim:=hall e (List.mem_of_getElem? hte)
      have hxl:(cur.take c).reverse.length≤cur.length:=by first | (simp; done) | (simp; lia)
      obtain ⟨kk,hkk⟩:∃ kk,kk=i+(j - i) / 2:=⟨_,rfl⟩
      obtain ⟨cm,hcm⟩:∃ cm,cm=min ci cj:=⟨_,rfl⟩
      have ek:SV.int ((i:Int)+((j:Int) - i) / 2)=SV.int ((kk:Nat):Int):=by rw [hkk]; congr 1; lia
      have em:SV.int (if (cj:Int) < ci then (cj:Int) else (ci:Int))=SV.int ((cm:Nat):Int):=by
        rw [hcm]
        congr 1
        split <;> lia
      rw [← hkk] at hR hte
      rw [← hcm] at hR hel
      have hx:t[((kk:Nat):Int).toNat]?=some e:=by rw [Int.toNat_natCast]; exact hte
      have hcmx:cm≤(cur.take c).reverse.length:=by lia
      have hFR:=fa_inn_b (d:=d) (x:=x) (dx:=dx) (t:=t) (c0:=c0) (lm:=lm) (lb:=lb) (bra:=bra) (ket:=ket) (i:=i) (j:=j) (ci:=ci) (cj:=cj) (kk:=kk) (fk:=fk) hc (rfl:(0:Int)=0) he (e.1.length - cm) cm 0 (by lia) hcmx rfl
      have hle:=inn_le e.1.reverse (cur.take c).reverse (e.1.length - cm) cm hcmx
      have hinn:inn (List.reverse e.1) (cur.take c).reverse (e.1.length - cm) cm=inn e.1.reverse (cur.take c).reverse (e.1.length - cm) cm:=rfl
      rw [hinn] at hR
      generalize inn e.1.reverse (cur.take c).reverse (e.1.length - cm) cm=r at hR hFR hle
      obtain ⟨df,cm'⟩:=r
      dsimp only at hR hFR hle
      have es:SV.int ((e.1.length:Int) - 1 - ((cm:Nat):Int))=SV.int ((e.1.length:Int) - 1 - (cm:Int)):=rfl
      by_cases hdf:df < 0
      · rw [if_pos hdf] at hR
        by_cases h1:kk - i≤1
        · rw [if_pos h1] at hR
          by_cases h2:0 < i
          · rw [if_pos h2] at hR
            cases hR
            refine' Bi (Ai Ap Zn) (Exs.post (LZ x t i c ci) (Aa (Ex.as ⟨[("self",.self x),("v",.tab t),("i",.int i),("j",.int j),("c",.int c),("lb",.int 0),("common_i",.int ci),("common_j",.int cj),("first_key_inspected",.bool fk),("k",.int kk)],.some (x,dx,FF cur c0 lm lb bra ket)⟩ (Am (Ev.eq (Cb Zl (Ev.shr (Ag Zl Zl) Ae (by lia))) ek) (by rfl) Zn) (by rfl)) (Aa (Ex.as ⟨[("self",.self x),("v",.tab t),("i",.int i),("j",.int j),("c",.int c),("lb",.int 0),("common_i",.int ci),("common_j",.int cj),("first_key_inspected",.bool fk),("k",.int kk),("diff",.int 0)],.some (x,dx,FF cur c0 lm lb bra ket)⟩ (Am Ae (by rfl) Zn) (by rfl)) (Aa (Ex.as ⟨[("self",.self x),("v",.tab t),("i",.int i),("j",.int j),("c",.int c),("lb",.int 0),("common_i",.int ci),("common_j",.int cj),("first_key_inspected",.bool fk),("k",.int kk),("diff",.int 0),("common",.int cm)],.some (x,dx,FF cur c0 lm lb bra ket)⟩ (Am (Ev.eq (Ev.min (by rfl) Zl Zl) em) (by rfl) Zn) (by rfl)) (Aa (Ex.as ⟨LI_b x t i j c 0 ci cj fk kk 0 cm e,.some (x,dx,FF cur c0 lm lb bra ket)⟩ (Am (Br Zl Zl (by lia) (by assumption) (by assumption)) (by rfl) Zn) (by rfl)) (Aa (Ex.forDown (by rfl) (Ev.eq (Ag (Ag (Be (by rfl) (Bk Zl (by assumption) Zn)) Ae) Zl) es) (Cc Ae) (Cc Ae) (by rfl) (by lia) (by lia) hFR) (Aa (Ak (Ac Zl Ae (eR (by lia))) (Aa (Am Zl (by rfl) Zn) (Aa (Am Zl (by rfl) Zn) Ad))) (Ab (Ak (Ac (Ag Zl Zl) Ae (cS (by lia))) (Ab (Ak (Ac Zl Ae (eC (by lia))) (Ab Bq (by simp))) (by simp))) (by simp)))))))) (aD (by rfl) (aD (by rfl) (aD (by rfl) (aD (by rfl) (aD (by rfl) aP))))))
          rw [if_neg h2] at hR
          by_cases h3:kk=i
          · rw [if_pos h3] at hR
            cases hR
            refine' Bi (Ai Ap Zn) (Exs.post (LZ x t i c ci) (Aa (Ex.as ⟨[("self",.self x),("v",.tab t),("i",.int i),("j",.int j),("c",.int c),("lb",.int 0),("common_i",.int ci),("common_j",.int cj),("first_key_inspected",.bool fk),("k",.int kk)],.some (x,dx,FF cur c0 lm lb bra ket)⟩ (Am (Ev.eq (Cb Zl (Ev.shr (Ag Zl Zl) Ae (by lia))) ek) (by rfl) Zn) (by rfl)) (Aa (Ex.as ⟨[("self",.self x),("v",.tab t),("i",.int i),("j",.int j),("c",.int c),("lb",.int 0),("common_i",.int ci),("common_j",.int cj),("first_key_inspected",.bool fk),("k",.int kk),("diff",.int 0)],.some (x,dx,FF cur c0 lm lb bra ket)⟩ (Am Ae (by rfl) Zn) (by rfl)) (Aa (Ex.as ⟨[("self",.self x),("v",.tab t),("i",.int i),("j",.int j),("c",.int c),("lb",.int 0),("common_i",.int ci),("common_j",.int cj),("first_key_inspected",.bool fk),("k",.int kk),("diff",.int 0),("common",.int cm)],.some (x,dx,FF cur c0 lm lb bra ket)⟩ (Am (Ev.eq (Ev.min (by rfl) Zl Zl) em) (by rfl) Zn) (by rfl)) (Aa (Ex.as ⟨LI_b x t i j c 0 ci cj fk kk 0 cm e,.some (x,dx,FF cur c0 lm lb bra ket)⟩ (Am (Br Zl Zl (by lia) (by assumption) (by assumption)) (by rfl) Zn) (by rfl)) (Aa (Ex.forDown (by rfl) (Ev.eq (Ag (Ag (Be (by rfl) (Bk Zl (by assumption) Zn)) Ae) Zl) es) (Cc Ae) (Cc Ae) (by rfl) (by lia) (by lia) hFR) (Aa (Ak (Ac Zl Ae (eR (by lia))) (Aa (Am Zl (by rfl) Zn) (Aa (Am Zl (by rfl) Zn) Ad))) (Ab (Ak (Ac (Ag Zl Zl) Ae (cS (by lia))) (Aa (Af (Ac Zl Ae (dT (by lia))) Ad) (Ab (Ak (Ac Zl Zl (bY (by lia))) (Ab Bq (by simp))) (by simp)))) (by simp)))))))) (aD (by rfl) (aD (by rfl) (aD (by rfl) (aD (by rfl) (aD (by rfl) aP))))))
          rw [if_neg h3] at hR
          cases fk with
          | true =>
            cases hR
            refine' Bi (Ai Ap Zn) (Exs.post (LZ x t i c ci) (Aa (Ex.as ⟨[("self",.self x),("v",.tab t),("i",.int i),("j",.int j),("c",.int c),("lb",.int 0),("common_i",.int ci),("common_j",.int cj),("first_key_inspected",.bool true),("k",.int kk)],.some (x,dx,FF cur c0 lm lb bra ket)⟩ (Am (Ev.eq (Cb Zl (Ev.shr (Ag Zl Zl) Ae (by lia))) ek) (by rfl) Zn) (by rfl)) (Aa (Ex.as ⟨[("self",.self x),("v",.tab t),("i",.int i),("j",.int j),("c",.int c),("lb",.int 0),("common_i",.int ci),("common_j",.int cj),("first_key_inspected",.bool true),("k",.int kk),("diff",.int 0)],.some (x,dx,FF cur c0 lm lb bra ket)⟩ (Am Ae (by rfl) Zn) (by rfl)) (Aa (Ex.as ⟨[("self",.self x),("v",.tab t),("i",.int i),("j",.int j),("c",.int c),("lb",.int 0),("common_i",.int ci),("common_j",.int cj),("first_key_inspected",.bool true),("k",.int kk),("diff",.int 0),("common",.int cm)],.some (x,dx,FF cur c0 lm lb bra ket)⟩ (Am (Ev.eq (Ev.min (by rfl) Zl Zl) em) (by rfl) Zn) (by rfl)) (Aa (Ex.as ⟨LI_b x t i j c 0 ci cj true kk 0 cm e,.some (x,dx,FF cur c0 lm lb bra ket)⟩ (Am (Br Zl Zl (by lia) (by assumption) (by assumption)) (by rfl) Zn) (by rfl)) (Aa (Ex.forDown (by rfl) (Ev.eq (Ag (Ag (Be (by rfl) (Bk Zl (by assumption) Zn)) Ae) Zl) es) (Cc Ae) (Cc Ae) (by rfl) (by lia) (by lia) hFR) (Aa (Ak (Ac Zl Ae (eR (by lia))) (Aa (Am Zl (by rfl) Zn) (Aa (Am Zl (by rfl) Zn) Ad))) (Ab (Ak (Ac (Ag Zl Zl) Ae (cS (by lia))) (Aa (Af (Ac Zl Ae (dT (by lia))) Ad) (Aa (Af (Ac Zl Zl (aI (by lia))) Ad) (Ab (Ak (Ai Zl Zn) (Ab Bq (by simp))) (by simp))))) (by simp)))))))) (aD (by rfl) (aD (by rfl) (aD (by rfl) (aD (by rfl) (aD (by rfl) aP))))))
          | false =>
            rw [if_neg (by decide)] at hR
            refine' Whl.step (Ai Ap Zn) (Exs.post (LA_b x t i kk c 0 ci cm' true) (Aa (Ex.as ⟨[("self",.self x),("v",.tab t),("i",.int i),("j",.int j),("c",.int c),("lb",.int 0),("common_i",.int ci),("common_j",.int cj),("first_key_inspected",.bool false),("k",.int kk)],.some (x,dx,FF cur c0 lm lb bra ket)⟩ (Am (Ev.eq (Cb Zl (Ev.shr (Ag Zl Zl) Ae (by lia))) ek) (by rfl) Zn) (by rfl)) (Aa (Ex.as ⟨[("self",.self x),("v",.tab t),("i",.int i),("j",.int j),("c",.int c),("lb",.int 0),("common_i",.int ci),("common_j",.int cj),("first_key_inspected",.bool false),("k",.int kk),("diff",.int 0)],.some (x,dx,FF cur c0 lm lb bra ket)⟩ (Am Ae (by rfl) Zn) (by rfl)) (Aa (Ex.as ⟨[("self",.self x),("v",.tab t),("i",.int i),("j",.int j),("c",.int c),("lb",.int 0),("common_i",.int ci),("common_j",.int cj),("first_key_inspected",.bool false),("k",.int kk),("diff",.int 0),("common",.int cm)],.some (x,dx,FF cur c0 lm lb bra ket)⟩ (Am (Ev.eq (Ev.min (by rfl) Zl Zl) em) (by rfl) Zn) (by rfl)) (Aa (Ex.as ⟨LI_b x t i j c 0 ci cj false kk 0 cm e,.some (x,dx,FF cur c0 lm lb bra ket)⟩ (Am (Br Zl Zl (by lia) (by assumption) (by assumption)) (by rfl) Zn) (by rfl)) (Aa (Ex.forDown (by rfl) (Ev.eq (Ag (Ag (Be (by rfl) (Bk Zl (by assumption) Zn)) Ae) Zl) es) (Cc Ae) (Cc Ae) (by rfl) (by lia) (by lia) hFR) (Aa (Ak (Ac Zl Ae (eR (by lia))) (Aa (Am Zl (by rfl) Zn) (Aa (Am Zl (by rfl) Zn) Ad))) (Aa (Ak (Ac (Ag Zl Zl) Ae (cS (by lia))) (Aa (Af (Ac Zl Ae (dT (by lia))) Ad) (Aa (Af (Ac Zl Zl (aI (by lia))) Ad) (Aa (Af (Ai Zl Zn) Ad) (Aa (Am Ap (by rfl) Zn) Ad))))) Ad))))))) (aD (by rfl) (aD (by rfl) (aD (by rfl) (aD (by rfl) (aD (by rfl) (aD (by rfl) (aD (by rfl) (aD (by rfl) (aD (by rfl) aP)))))))))) (.inl rfl) (kW hc hcl hall htl n i kk ci cm' true R hR (by lia) (by lia) (by lia) (by lia))
        · rw [if_neg h1] at hR
          refine' Whl.step (Ai Ap Zn) (Exs.post (LA_b x t i kk c 0 ci cm' fk) (Aa (Ex.as ⟨[("self",.self x),("v",.tab t),("i",.int i),("j",.int j),("c",.int c),("lb",.int 0),("common_i",.int ci),("common_j",.int cj),("first_key_inspected",.bool fk),("k",.int kk)],.some (x,dx,FF cur c0 lm lb bra ket)⟩ (Am (Ev.eq (Cb Zl (Ev.shr (Ag Zl Zl) Ae (by lia))) ek) (by rfl) Zn) (by rfl)) (Aa (Ex.as ⟨[("self",.self x),("v",.tab t),("i",.int i),("j",.int j),("c",.int c),("lb",.int 0),("common_i",.int ci),("common_j",.int cj),("first_key_inspected",.bool fk),("k",.int kk),("diff",.int 0)],.some (x,dx,FF cur c0 lm lb bra ket)⟩ (Am Ae (by rfl) Zn) (by rfl)) (Aa (Ex.as ⟨[("self",.self x),("v",.tab t),("i",.int i),("j",.int j),("c",.int c),("lb",.int 0),("common_i",.int ci),("common_j",.int cj),("first_key_inspected",.bool fk),("k",.int kk),("diff",.int 0),("common",.int cm)],.some (x,dx,FF cur c0 lm lb bra ket)⟩ (Am (Ev.eq (Ev.min (by rfl) Zl Zl) em) (by rfl) Zn) (by rfl)) (Aa (Ex.as ⟨LI_b x t i j c 0 ci cj fk kk 0 cm e,.some (x,dx,FF cur c0 lm lb bra ket)⟩ (Am (Br Zl Zl (by lia) (by assumption) (by assumption)) (by rfl) Zn) (by rfl)) (Aa (Ex.forDown (by rfl) (Ev.eq (Ag (Ag (Be (by rfl) (Bk Zl (by assumption) Zn)) Ae) Zl) es) (Cc Ae) (Cc Ae) (by rfl) (by lia) (by lia) hFR) (Aa (Ak (Ac Zl Ae (eR (by lia))) (Aa (Am Zl (by rfl) Zn) (Aa (Am Zl (by rfl) Zn) Ad))) (Aa (Af (Ac (Ag Zl Zl) Ae (dF (by lia))) Ad) Ad))))))) (aD (by rfl) (aD (by rfl) (aD (by rfl) (aD (by rfl) (aD (by rfl) (aD (by rfl) (aD (by rfl) (aD (by rfl) (aD (by rfl) aP)))))))))) (.inl rfl) (kW hc hcl hall htl n i kk ci cm' fk R hR (by lia) (by lia) (by lia) (by lia))
      · rw [if_neg hdf] at hR
        by_cases h1:j - kk≤1
        · rw [if_pos h1] at hR
          by_cases h2:0 < kk
          · rw [if_pos h2] at hR
            cases hR
            refine' Bi (Ai Ap Zn) (Exs.post (LZ x t kk c cm') (Aa (Ex.as ⟨[("self",.self x),("v",.tab t),("i",.int i),("j",.int j),("c",.int c),("lb",.int 0),("common_i",.int ci),("common_j",.int cj),("first_key_inspected",.bool fk),("k",.int kk)],.some (x,dx,FF cur c0 lm lb bra ket)⟩ (Am (Ev.eq (Cb Zl (Ev.shr (Ag Zl Zl) Ae (by lia))) ek) (by rfl) Zn) (by rfl)) (Aa (Ex.as ⟨[("self",.self x),("v",.tab t),("i",.int i),("j",.int j),("c",.int c),("lb",.int 0),("common_i",.int ci),("common_j",.int cj),("first_key_inspected",.bool fk),("k",.int kk),("diff",.int 0)],.some (x,dx,FF cur c0 lm lb bra ket)⟩ (Am Ae (by rfl) Zn) (by rfl)) (Aa (Ex.as ⟨[("self",.self x),("v",.tab t),("i",.int i),("j",.int j),("c",.int c),("lb",.int 0),("common_i",.int ci),("common_j",.int cj),("first_key_inspected",.bool fk),("k",.int kk),("diff",.int 0),("common",.int cm)],.some (x,dx,FF cur c0 lm lb bra ket)⟩ (Am (Ev.eq (Ev.min (by rfl) Zl Zl) em) (by rfl) Zn) (by rfl)) (Aa (Ex.as ⟨LI_b x t i j c 0 ci cj fk kk 0 cm e,.some (x,dx,FF cur c0 lm lb bra ket)⟩ (Am (Br Zl Zl (by lia) (by assumption) (by assumption)) (by rfl) Zn) (by rfl)) (Aa (Ex.forDown (by rfl) (Ev.eq (Ag (Ag (Be (by rfl) (Bk Zl (by assumption) Zn)) Ae) Zl) es) (Cc Ae) (Cc Ae) (by rfl) (by lia) (by lia) hFR) (Aa (Af (Ac Zl Ae (fQ (by lia))) (Aa (Am Zl (by rfl) Zn) (Aa (Am Zl (by rfl) Zn) Ad))) (Ab (Ak (Ac (Ag Zl Zl) Ae (cS (by lia))) (Ab (Ak (Ac Zl Ae (eC (by lia))) (Ab Bq (by simp))) (by simp))) (by simp)))))))) (aD (by rfl) (aD (by rfl) (aD (by rfl) (aD (by rfl) (aD (by rfl) aP))))))
          rw [if_neg h2] at hR
          by_cases h3:j=kk
          · rw [if_pos h3] at hR
            cases hR
            refine' Bi (Ai Ap Zn) (Exs.post (LZ x t kk c cm') (Aa (Ex.as ⟨[("self",.self x),("v",.tab t),("i",.int i),("j",.int j),("c",.int c),("lb",.int 0),("common_i",.int ci),("common_j",.int cj),("first_key_inspected",.bool fk),("k",.int kk)],.some (x,dx,FF cur c0 lm lb bra ket)⟩ (Am (Ev.eq (Cb Zl (Ev.shr (Ag Zl Zl) Ae (by lia))) ek) (by rfl) Zn) (by rfl)) (Aa (Ex.as ⟨[("self",.self x),("v",.tab t),("i",.int i),("j",.int j),("c",.int c),("lb",.int 0),("common_i",.int ci),("common_j",.int cj),("first_key_inspected",.bool fk),("k",.int kk),("diff",.int 0)],.some (x,dx,FF cur c0 lm lb bra ket)⟩ (Am Ae (by rfl) Zn) (by rfl)) (Aa (Ex.as ⟨[("self",.self x),("v",.tab t),("i",.int i),("j",.int j),("c",.int c),("lb",.int 0),("common_i",.int ci),("common_j",.int cj),("first_key_inspected",.bool fk),("k",.int kk),("diff",.int 0),("common",.int cm)],.some (x,dx,FF cur c0 lm lb bra ket)⟩ (Am (Ev.eq (Ev.min (by rfl) Zl Zl) em) (by rfl) Zn) (by rfl)) (Aa (Ex.as ⟨LI_b x t i j c 0 ci cj fk kk 0 cm e,.some (x,dx,FF cur c0 lm lb bra ket)⟩ (Am (Br Zl Zl (by lia) (by assumption) (by assumption)) (by rfl) Zn) (by rfl)) (Aa (Ex.forDown (by rfl) (Ev.eq (Ag (Ag (Be (by rfl) (Bk Zl (by assumption) Zn)) Ae) Zl) es) (Cc Ae) (Cc Ae) (by rfl) (by lia) (by lia) hFR) (Aa (Af (Ac Zl Ae (fQ (by lia))) (Aa (Am Zl (by rfl) Zn) (Aa (Am Zl (by rfl) Zn) Ad))) (Ab (Ak (Ac (Ag Zl Zl) Ae (cS (by lia))) (Aa (Af (Ac Zl Ae (dT (by lia))) Ad) (Ab (Ak (Ac Zl Zl (bY (by lia))) (Ab Bq (by simp))) (by simp)))) (by simp)))))))) (aD (by rfl) (aD (by rfl) (aD (by rfl) (aD (by rfl) (aD (by rfl) aP))))))
          rw [if_neg h3] at hR
          cases fk with
          | true =>
            cases hR
            refine' Bi (Ai Ap Zn) (Exs.post (LZ x t kk c cm') (Aa (Ex.as ⟨[("self",.self x),("v",.tab t),("i",.int i),("j",.int j),("c",.int c),("lb",.int 0),("common_i",.int ci),("common_j",.int cj),("first_key_inspected",.bool true),("k",.int kk)],.some (x,dx,FF cur c0 lm lb bra ket)⟩ (Am (Ev.eq (Cb Zl (Ev.shr (Ag Zl Zl) Ae (by lia))) ek) (by rfl) Zn) (by rfl)) (Aa (Ex.as ⟨[("self",.self x),("v",.tab t),("i",.int i),("j",.int j),("c",.int c),("lb",.int 0),("common_i",.int ci),("common_j",.int cj),("first_key_inspected",.bool true),("k",.int kk),("diff",.int 0)],.some (x,dx,FF cur c0 lm lb bra ket)⟩ (Am Ae (by rfl) Zn) (by rfl)) (Aa (Ex.as ⟨[("self",.self x),("v",.tab t),("i",.int i),("j",.int j),("c",.int c),("lb",.int 0),("common_i",.int ci),("common_j",.int cj),("first_key_inspected",.bool true),("k",.int kk),("diff",.int 0),("common",.int cm)],.some (x,dx,FF cur c0 lm lb bra ket)⟩ (Am (Ev.eq (Ev.min (by rfl) Zl Zl) em) (by rfl) Zn) (by rfl)) (Aa (Ex.as ⟨LI_b x t i j c 0 ci cj true kk 0 cm e,.some (x,dx,FF cur c0 lm lb bra ket)⟩ (Am (Br Zl Zl (by lia) (by assumption) (by assumption)) (by rfl) Zn) (by rfl)) (Aa (Ex.forDown (by rfl) (Ev.eq (Ag (Ag (Be (by rfl) (Bk Zl (by assumption) Zn)) Ae) Zl) es) (Cc Ae) (Cc Ae) (by rfl) (by lia) (by lia) hFR) (Aa (Af (Ac Zl Ae (fQ (by lia))) (Aa (Am Zl (by rfl) Zn) (Aa (Am Zl (by rfl) Zn) Ad))) (Ab (Ak (Ac (Ag Zl Zl) Ae (cS (by lia))) (Aa (Af (Ac Zl Ae (dT (by lia))) Ad) (Aa (Af (Ac Zl Zl (aI (by lia))) Ad) (Ab (Ak (Ai Zl Zn) (Ab Bq (by simp))) (by simp))))) (by simp)))))))) (aD (by rfl) (aD (by rfl) (aD (by rfl) (aD (by rfl) (aD (by rfl) aP))))))
          | false =>
            rw [if_neg (by decide)] at hR
            refine' Whl.step (Ai Ap Zn) (Exs.post (LA_b x t kk j c 0 cm' cj true) (Aa (Ex.as ⟨[("self",.self x),("v",.tab t),("i",.int i),("j",.int j),("c",.int c),("lb",.int 0),("common_i",.int ci),("common_j",.int cj),("first_key_inspected",.bool false),("k",.int kk)],.some (x,dx,FF cur c0 lm lb bra ket)⟩ (Am (Ev.eq (Cb Zl (Ev.shr (Ag Zl Zl) Ae (by lia))) ek) (by rfl) Zn) (by rfl)) (Aa (Ex.as ⟨[("self",.self x),("v",.tab t),("i",.int i),("j",.int j),("c",.int c),("lb",.int 0),("common_i",.int ci),("common_j",.int cj),("first_key_inspected",.bool false),("k",.int kk),("diff",.int 0)],.some (x,dx,FF cur c0 lm lb bra ket)⟩ (Am Ae (by rfl) Zn) (by rfl)) (Aa (Ex.as ⟨[("self",.self x),("v",.tab t),("i",.int i),("j",.int j),("c",.int c),("lb",.int 0),("common_i",.int ci),("common_j",.int cj),("first_key_inspected",.bool false),("k",.int kk),("diff",.int 0),("common",.int cm)],.some (x,dx,FF cur c0 lm lb bra ket)⟩ (Am (Ev.eq (Ev.min (by rfl) Zl Zl) em) (by rfl) Zn) (by rfl)) (Aa (Ex.as ⟨LI_b x t i j c 0 ci cj false kk 0 cm e,.some (x,dx,FF cur c0 lm lb bra ket)⟩ (Am (Br Zl Zl (by lia) (by assumption) (by assumption)) (by rfl) Zn) (by rfl)) (Aa (Ex.forDown (by rfl) (Ev.eq (Ag (Ag (Be (by rfl) (Bk Zl (by assumption) Zn)) Ae) Zl) es) (Cc Ae) (Cc Ae) (by rfl) (by lia) (by lia) hFR) (Aa (Af (Ac Zl Ae (fQ (by lia))) (Aa (Am Zl (by rfl) Zn) (Aa (Am Zl (by rfl) Zn) Ad))) (Aa (Ak (Ac (Ag Zl Zl) Ae (cS (by lia))) (Aa (Af (Ac Zl Ae (dT (by lia))) Ad) (Aa (Af (Ac Zl Zl (aI (by lia))) Ad) (Aa (Af (Ai Zl Zn) Ad) (Aa (Am Ap (by rfl) Zn) Ad))))) Ad))))))) (aD (by rfl) (aD (by rfl) (aD (by rfl) (aD (by rfl) (aD (by rfl) (aD (by rfl) (aD (by rfl) (aD (by rfl) (aD (by rfl) aP)))))))))) (.inl rfl) (kW hc hcl hall htl n kk j cm' cj true R hR (by lia) (by lia) (by lia) (by lia))
        · rw [if_neg h1] at hR
          refine' Whl.step (Ai Ap Zn) (Exs.post (LA_b x t kk j c 0 cm' cj fk) (Aa (Ex.as ⟨[("self",.self x),("v",.tab t),("i",.int i),("j",.int j),("c",.int c),("lb",.int 0),("common_i",.int ci),("common_j",.int cj),("first_key_inspected",.bool fk),("k",.int kk)],.some (x,dx,FF cur c0 lm lb bra ket)⟩ (Am (Ev.eq (Cb Zl (Ev.shr (Ag Zl Zl) Ae (by lia))) ek) (by rfl) Zn) (by rfl)) (Aa (Ex.as ⟨[("self",.self x),("v",.tab t),("i",.int i),("j",.int j),("c",.int c),("lb",.int 0),("common_i",.int ci),("common_j",.int cj),("first_key_inspected",.bool fk),("k",.int kk),("diff",.int 0)],.some (x,dx,FF cur c0 lm lb bra ket)⟩ (Am Ae (by rfl) Zn) (by rfl)) (Aa (Ex.as ⟨[("self",.self x),("v",.tab t),("i",.int i),("j",.int j),("c",.int c),("lb",.int 0),("common_i",.int ci),("common_j",.int cj),("first_key_inspected",.bool fk),("k",.int kk),("diff",.int 0),("common",.int cm)],.some (x,dx,FF cur c0 lm lb bra ket)⟩ (Am (Ev.eq (Ev.min (by rfl) Zl Zl) em) (by rfl) Zn) (by rfl)) (Aa (Ex.as ⟨LI_b x t i j c 0 ci cj fk kk 0 cm e,.some (x,dx,FF cur c0 lm lb bra ket)⟩ (Am (Br Zl Zl (by lia) (by assumption) (by assumption)) (by rfl) Zn) (by rfl)) (Aa (Ex.forDown (by rfl) (Ev.eq (Ag (Ag (Be (by rfl) (Bk Zl (by assumption) Zn)) Ae) Zl) es) (Cc Ae) (Cc Ae) (by rfl) (by lia) (by lia) hFR) (Aa (Af (Ac Zl Ae (fQ (by lia))) (Aa (Am Zl (by rfl) Zn) (Aa (Am Zl (by rfl) Zn) Ad))) (Aa (Af (Ac (Ag Zl Zl) Ae (dF (by lia))) Ad) Ad))))))) (aD (by rfl) (aD (by rfl) (aD (by rfl) (aD (by rfl) (aD (by rfl) (aD (by rfl) (aD (by rfl) (aD (by rfl) (aD (by rfl) aP)))))))))) (.inl rfl) (kW hc hcl hall htl n kk j cm' cj fk R hR (by lia) (by lia) (by lia) (by lia))
noncomputable abbrev Bv:=@Ex.as
noncomputable def hit:Option (T×Int×Int)→Int
  | none=>0
  | some e=>e.2.2
noncomputable def hitF (c:Int):Option (T×Int×Int)→Int
  | none=>c
  | some e=>c+e.1.length
noncomputable def hitB (c:Int):Option (T×Int×Int)→Int
  | none=>c
  | some e=>c - e.1.length
theorem Exs.postE {d:Nat} {sc:Scope} {b:List Stmt} {st st₁:Sx} {fl:Fl} {f':Mu} (l:Loc) (h:Exs d sc b st fl st₁) (hl:Le l st₁.loc) (e:st₁.f=f'):Exs d sc b st fl ⟨l,f'⟩:=e▸h.post l hl
theorem Ev.lenT {d:Nat} {sc:Scope} {st st₁:Sx} {pf p:Pos} {e:Expr} {t:List (T×Int×Int)} (hl:sc.names.lookup ("len" : Str)=some .globalImplicit) (he:Ev d sc e st (.tab t) st₁) (ht:t.length≤1000) (hs:bU e=true:=by rfl):Ev d sc (.Call (.Name "len" pf) [e] [] p) st (.int t.length) st₁ :=
  .call1 k_len boot_len (by decide) (by decide) hl he (fun c imm V s O I q=>by
    obtain ⟨a,rfl,vs,n,slo,hlk,hall⟩:=q
    obtain ⟨g,m,mt,T,F,N,B,D,MO,ND,LO⟩:=id I.ex
    have hL:=lstK ((Inv.X O B).keeps F.keep) hlk
    have hz:vs.size=t.length:=by rw [← Array.length_toList,← hall.length]
    exact kun_lenL (k:=(t.length:Int)) hL (by simp [hz]) (by lia) (eJ I (.int_ _) _)) hs
theorem fa_chase {d:Nat} {x dx:Addr} {t:List (T×Int×Int)} {cur:T} {c ci:Nat} {lm lb bra ket:Int} (hall:∀ e∈t,e.1.length≤lim) (htl:t.length≤1000) :
    ∀ (n i:Nat) (R:Option (T×Int×Int)),chase t ci n i=some R→∃ l,Whl d (aE (stC 2 14)) (wTest (nthS (aG (stC 2 14)) 8)) (cU (nthS (aG (stC 2 14)) 8)) ⟨LZ x t i c ci,.some (x,dx,FF cur c lm lb bra ket)⟩ (.ret (.int (hit R))) ⟨l,.some (x,dx,FF cur (hitF c R) lm lb bra ket)⟩
  | 0,_,_,h=>by cases h
  | n+1,i,R,h=>by
    unfold chase at h
    cases hte:t[i]? with
    | none=>rw [hte] at h; cases h
    | some e =>
      rw [hte] at h
      dsimp only at h
      have hx:t[((i:Nat):Int).toNat]?=some e:=by rw [Int.toNat_natCast]; exact hte
      have he:e.1.length≤lim:=hall e (List.mem_of_getElem? hte)
      by_cases h1:e.1.length≤ci
      · rw [if_pos h1] at h
        cases h
        refine ⟨[],?_⟩
        refine' Whl.ret (Ai Ap Zn) (Exs.postE [] (Aa (Bv ⟨[("self",.self x),("v",.tab t),("i",.int i),("c",.int c),("common_i",.int ci),("w",.amg e)],.some (x,dx,FF cur c lm lb bra ket)⟩ (Am (Br Zl Zl (by lia) (by assumption) (by assumption)) (by rfl) Zn) (by rfl)) (Ab (Ak (Ac Zl (Be (by rfl) (Bk Zl (by assumption) Zn)) (i_ge_t (by lia))) (Aa (Bx (Cb Zl (Be (by rfl) (Bk Zl (by assumption) Zn))) Zl (by rfl) aJ Zb cW Zn) (Ab (Ax (Ev.amg_r Zl Zn)) (by simp)))) (by simp))) aP (by rfl))
      · rw [if_neg h1] at h
        by_cases h2:e.2.1 < 0
        · rw [if_pos h2] at h
          cases h
          refine ⟨[],?_⟩
          refine' Whl.ret (Ai Ap Zn) (Exs.postE [] (Aa (Bv ⟨[("self",.self x),("v",.tab t),("i",.int i),("c",.int c),("common_i",.int ci),("w",.amg e)],.some (x,dx,FF cur c lm lb bra ket)⟩ (Am (Br Zl Zl (by lia) (by assumption) (by assumption)) (by rfl) Zn) (by rfl)) (Aa (Af (Ac Zl (Be (by rfl) (Bk Zl (by assumption) Zn)) (nK (by lia))) Ad) (Aa (Am (Ev.amg_i Zl Zn) (by rfl) Zn) (Ab (Ak (Ac Zl Ae (eR (by lia))) (Ab (Ax Ae) (by simp))) (by simp))))) aP (by rfl))
        · rw [if_neg h2] at h
          obtain ⟨l,w⟩:=fa_chase (d:=d) (x:=x) (dx:=dx) (cur:=cur) (c:=c) (lm:=lm) (lb:=lb) (bra:=bra) (ket:=ket) hall htl n e.2.1.toNat R h
          have en:((e.2.1.toNat:Nat):Int)=e.2.1:=by lia
          rw [en] at w
          refine ⟨l,?_⟩
          refine' Whl.step (Ai Ap Zn) (Exs.postE (LZ x t e.2.1 c ci) (Aa (Bv ⟨[("self",.self x),("v",.tab t),("i",.int i),("c",.int c),("common_i",.int ci),("w",.amg e)],.some (x,dx,FF cur c lm lb bra ket)⟩ (Am (Br Zl Zl (by lia) (by assumption) (by assumption)) (by rfl) Zn) (by rfl)) (Aa (Af (Ac Zl (Be (by rfl) (Bk Zl (by assumption) Zn)) (nK (by lia))) Ad) (Aa (Am (Ev.amg_i Zl Zn) (by rfl) Zn) (Aa (Af (Ac Zl Ae (fQ (by lia))) Ad) Ad)))) (aD (by rfl) (aD (by rfl) (aD (by rfl) (aD (by rfl) (aD (by rfl) aP))))) (by rfl)) (.inl rfl) w
theorem fa_ok {d:Nat} {x dx:Addr} {t:List (T×Int×Int)} {cur:T} {c n n':Nat} {lm lb bra ket:Int} {R:Nat×Nat} {Q:Option (T×Int×Int)} (hc:c≤cur.length) (hcl:cur.length≤65536) (hall:∀ e∈t,e.1.length≤lim) (htl:t.length≤1000)
    (h1:outr id t (cur.drop c) n 0 t.length 0 0 false=some R) (h2:chase t R.2 n' R.1=some Q) :
    CallOK (d+1) 133 [.self x,.tab t] (.some (x,dx,FF cur c cur.length lb bra ket)) (.int (hit Q)) (.some (x,dx,FF cur (hitF c Q) cur.length lb bra ket)):=by
  have w1:=fa_out (d:=d) (x:=x) (dx:=dx) (t:=t) (c0:=c) (lm:=cur.length) (lb:=lb) (bra:=bra) (ket:=ket) hc hcl hall htl n 0 t.length 0 0 false R h1 (Nat.zero_le _) (Nat.le_refl _) (Nat.zero_le _) (Nat.zero_le _)
  obtain ⟨l,w2⟩:=fa_chase (d:=d) (x:=x) (dx:=dx) (cur:=cur) (c:=c) (lm:=cur.length) (lb:=lb) (bra:=bra) (ket:=ket) hall htl n' R.1 Q h2
  refine' Au fn_find_among rfl (.inl rfl) (Aa (Bv ⟨[("self",.self x),("v",.tab t),("i",.int ((0:Nat):Int))],.some (x,dx,FF cur c cur.length lb bra ket)⟩ (Am Ae (by rfl) Zn) (by rfl)) (Aa (Bv ⟨[("self",.self x),("v",.tab t),("i",.int ((0:Nat):Int)),("j",.int ((t.length:Nat):Int))],.some (x,dx,FF cur c cur.length lb bra ket)⟩ (Am (Ev.lenT (by rfl) Zl (by lia)) (by rfl) Zn) (by rfl)) (Aa (Bv ⟨[("self",.self x),("v",.tab t),("i",.int ((0:Nat):Int)),("j",.int ((t.length:Nat):Int)),("c",.int c)],.some (x,dx,FF cur c cur.length lb bra ket)⟩ (Am (Aj Zl (by rfl) aJ (by rfl) Zn) (by rfl) Zn) (by rfl)) (Aa (Bv ⟨[("self",.self x),("v",.tab t),("i",.int ((0:Nat):Int)),("j",.int ((t.length:Nat):Int)),("c",.int c),("l",.int cur.length)],.some (x,dx,FF cur c cur.length lb bra ket)⟩ (Am (Aj Zl (by rfl) dD (by rfl) Zn) (by rfl) Zn) (by rfl)) (Aa (Bv ⟨[("self",.self x),("v",.tab t),("i",.int ((0:Nat):Int)),("j",.int ((t.length:Nat):Int)),("c",.int c),("l",.int cur.length),("common_i",.int ((0:Nat):Int))],.some (x,dx,FF cur c cur.length lb bra ket)⟩ (Am Ae (by rfl) Zn) (by rfl)) (Aa (Bv ⟨[("self",.self x),("v",.tab t),("i",.int ((0:Nat):Int)),("j",.int ((t.length:Nat):Int)),("c",.int c),("l",.int cur.length),("common_i",.int ((0:Nat):Int)),("common_j",.int ((0:Nat):Int))],.some (x,dx,FF cur c cur.length lb bra ket)⟩ (Am Ae (by rfl) Zn) (by rfl)) (Aa (Bv ⟨[("self",.self x),("v",.tab t),("i",.int ((0:Nat):Int)),("j",.int ((t.length:Nat):Int)),("c",.int c),("l",.int cur.length),("common_i",.int ((0:Nat):Int)),("common_j",.int ((0:Nat):Int)),("first_key_inspected",.bool false)],.some (x,dx,FF cur c cur.length lb bra ket)⟩ (Am Ap (by rfl) Zn) (by rfl)) (Aa (Az w1) (Ab (Az w2) (by simp)))))))))) ?_
  rfl
theorem fa_chase_b {d:Nat} {x dx:Addr} {t:List (T×Int×Int)} {cur:T} {c ci:Nat} {lm lb bra ket:Int} (hall:∀ e∈t,e.1.length≤lim) (htl:t.length≤1000) :
    ∀ (n i:Nat) (R:Option (T×Int×Int)),chase t ci n i=some R→∃ l,Whl d (aE (stC 2 15)) (wTest (nthS (aG (stC 2 15)) 8)) (cU (nthS (aG (stC 2 15)) 8)) ⟨LZ x t i c ci,.some (x,dx,FF cur c lm lb bra ket)⟩ (.ret (.int (hit R))) ⟨l,.some (x,dx,FF cur (hitB c R) lm lb bra ket)⟩
  | 0,_,_,h=>by cases h
  | n+1,i,R,h=>by
    unfold chase at h
    cases hte:t[i]? with
    | none=>rw [hte] at h; cases h
    | some e =>
      rw [hte] at h
      dsimp only at h
      have hx:t[((i:Nat):Int).toNat]?=some e:=by rw [Int.toNat_natCast]; exact hte
      have he:e.1.length≤lim:=hall e (List.mem_of_getElem? hte)
      by_cases h1:e.1.length≤ci
      · rw [if_pos h1] at h
        cases h
        refine ⟨[],?_⟩
        refine' Whl.ret (Ai Ap Zn) (Exs.postE [] (Aa (Bv ⟨[("self",.self x),("v",.tab t),("i",.int i),("c",.int c),("common_i",.int ci),("w",.amg e)],.some (x,dx,FF cur c lm lb bra ket)⟩ (Am (Br Zl Zl (by lia) (by assumption) (by assumption)) (by rfl) Zn) (by rfl)) (Ab (Ak (Ac Zl (Be (by rfl) (Bk Zl (by assumption) Zn)) (i_ge_t (by lia))) (Aa (Bx (Ag Zl (Be (by rfl) (Bk Zl (by assumption) Zn))) Zl (by rfl) aJ Zb cW Zn) (Ab (Ax (Ev.amg_r Zl Zn)) (by simp)))) (by simp))) aP (by rfl))
      · rw [if_neg h1] at h
        by_cases h2:e.2.1 < 0
        · rw [if_pos h2] at h
          cases h
          refine ⟨[],?_⟩
          refine' Whl.ret (Ai Ap Zn) (Exs.postE [] (Aa (Bv ⟨[("self",.self x),("v",.tab t),("i",.int i),("c",.int c),("common_i",.int ci),("w",.amg e)],.some (x,dx,FF cur c lm lb bra ket)⟩ (Am (Br Zl Zl (by lia) (by assumption) (by assumption)) (by rfl) Zn) (by rfl)) (Aa (Af (Ac Zl (Be (by rfl) (Bk Zl (by assumption) Zn)) (nK (by lia))) Ad) (Aa (Am (Ev.amg_i Zl Zn) (by rfl) Zn) (Ab (Ak (Ac Zl Ae (eR (by lia))) (Ab (Ax Ae) (by simp))) (by simp))))) aP (by rfl))
        · rw [if_neg h2] at h
          obtain ⟨l,w⟩:=fa_chase_b (d:=d) (x:=x) (dx:=dx) (cur:=cur) (c:=c) (lm:=lm) (lb:=lb) (bra:=bra) (ket:=ket) hall htl n e.2.1.toNat R h
          have en:((e.2.1.toNat:Nat):Int)=e.2.1:=by lia
          rw [en] at w
          refine ⟨l,?_⟩
          refine' Whl.step (Ai Ap Zn) (Exs.postE (LZ x t e.2.1 c ci) (Aa (Bv ⟨[("self",.self x),("v",.tab t),("i",.int i),("c",.int c),("common_i",.int ci),("w",.amg e)],.some (x,dx,FF cur c lm lb bra ket)⟩ (Am (Br Zl Zl (by lia) (by assumption) (by assumption)) (by rfl) Zn) (by rfl)) (Aa (Af (Ac Zl (Be (by rfl) (Bk Zl (by assumption) Zn)) (nK (by lia))) Ad) (Aa (Am (Ev.amg_i Zl Zn) (by rfl) Zn) (Aa (Af (Ac Zl Ae (fQ (by lia))) Ad) Ad)))) (aD (by rfl) (aD (by rfl) (aD (by rfl) (aD (by rfl) (aD (by rfl) aP))))) (by rfl)) (.inl rfl) w
theorem fa_ok_b {d:Nat} {x dx:Addr} {t:List (T×Int×Int)} {cur:T} {c n n':Nat} {lm lb bra ket:Int} {R:Nat×Nat} {Q:Option (T×Int×Int)} (hc:c≤cur.length) (hcl:cur.length≤65536) (hall:∀ e∈t,e.1.length≤lim) (htl:t.length≤1000)
    (h1:outr List.reverse t (cur.take c).reverse n 0 t.length 0 0 false=some R) (h2:chase t R.2 n' R.1=some Q) :
    CallOK (d+1) 140 [.self x,.tab t] (.some (x,dx,FF cur c lm 0 bra ket)) (.int (hit Q)) (.some (x,dx,FF cur (hitB c Q) lm 0 bra ket)):=by
  have w1:=kW (d:=d) (x:=x) (dx:=dx) (t:=t) (c0:=c) (lm:=lm) (lb:=0) (bra:=bra) (ket:=ket) hc hcl hall htl n 0 t.length 0 0 false R h1 (Nat.zero_le _) (Nat.le_refl _) (Nat.zero_le _) (Nat.zero_le _)
  obtain ⟨l,w2⟩:=fa_chase_b (d:=d) (x:=x) (dx:=dx) (cur:=cur) (c:=c) (lm:=lm) (lb:=0) (bra:=bra) (ket:=ket) hall htl n' R.1 Q h2
  refine' Au nQ rfl (.inl rfl) (Aa (Bv ⟨[("self",.self x),("v",.tab t),("i",.int ((0:Nat):Int))],.some (x,dx,FF cur c lm 0 bra ket)⟩ (Am Ae (by rfl) Zn) (by rfl)) (Aa (Bv ⟨[("self",.self x),("v",.tab t),("i",.int ((0:Nat):Int)),("j",.int ((t.length:Nat):Int))],.some (x,dx,FF cur c lm 0 bra ket)⟩ (Am (Ev.lenT (by rfl) Zl (by lia)) (by rfl) Zn) (by rfl)) (Aa (Bv ⟨[("self",.self x),("v",.tab t),("i",.int ((0:Nat):Int)),("j",.int ((t.length:Nat):Int)),("c",.int c)],.some (x,dx,FF cur c lm 0 bra ket)⟩ (Am (Aj Zl (by rfl) aJ (by rfl) Zn) (by rfl) Zn) (by rfl)) (Aa (Bv ⟨[("self",.self x),("v",.tab t),("i",.int ((0:Nat):Int)),("j",.int ((t.length:Nat):Int)),("c",.int c),("lb",.int 0)],.some (x,dx,FF cur c lm 0 bra ket)⟩ (Am (Aj Zl (by rfl) aH (by rfl) Zn) (by rfl) Zn) (by rfl)) (Aa (Bv ⟨[("self",.self x),("v",.tab t),("i",.int ((0:Nat):Int)),("j",.int ((t.length:Nat):Int)),("c",.int c),("lb",.int 0),("common_i",.int ((0:Nat):Int))],.some (x,dx,FF cur c lm 0 bra ket)⟩ (Am Ae (by rfl) Zn) (by rfl)) (Aa (Bv ⟨[("self",.self x),("v",.tab t),("i",.int ((0:Nat):Int)),("j",.int ((t.length:Nat):Int)),("c",.int c),("lb",.int 0),("common_i",.int ((0:Nat):Int)),("common_j",.int ((0:Nat):Int))],.some (x,dx,FF cur c lm 0 bra ket)⟩ (Am Ae (by rfl) Zn) (by rfl)) (Aa (Bv ⟨[("self",.self x),("v",.tab t),("i",.int ((0:Nat):Int)),("j",.int ((t.length:Nat):Int)),("c",.int c),("lb",.int 0),("common_i",.int ((0:Nat):Int)),("common_j",.int ((0:Nat):Int)),("first_key_inspected",.bool false)],.some (x,dx,FF cur c lm 0 bra ket)⟩ (Am Ap (by rfl) Zn) (by rfl)) (Aa (Az w1) (Ab (Az w2) (by simp)))))))))) ?_
  rfl
noncomputable abbrev By:=@Exs.postE
end Esp
namespace Esp
open Mine
noncomputable def lcp:T→T→Nat
  | a::w,b::x=>if a=b then lcp w x+1 else 0
  | _,_=>0
noncomputable def ltx:T→T→Bool
  | [],_::_=>true
  | _,[]=>false
  | b::x,a::w=>if b=a then ltx x w else decide (b < a)
theorem lcp_le_l:∀ w x:T,lcp w x≤w.length
  | [],_=>Nat.zero_le _
  | a::w,[]=>Nat.zero_le _
  | a::w,b::x=>by
    unfold lcp
    split
    · simp only [List.length_cons]; have:=lcp_le_l w x; lia
    · exact Nat.zero_le _
theorem inn_cons (a:Nat) (w x:T):∀ n k,inn (a::w) (a::x) n (k+1)=((inn w x n k).1,(inn w x n k).2+1)
  | 0,k=>rfl
  | n+1,k=>by
    unfold inn
    simp only [List.length_cons,Nat.add_right_cancel_iff,List.getD_cons_succ]
    by_cases h:k=x.length
    · rw [if_pos h,if_pos h]
    · rw [if_neg h,if_neg h]
      by_cases h2:((x.getD k 0:Nat):Int) - ((w.getD k 0:Nat):Int)≠0
      · rw [if_pos h2,if_pos h2]
      · rw [if_neg h2,if_neg h2]
        exact inn_cons a w x n (k+1)
theorem inn_spec:∀ (w x:T) (k:Nat),k≤lcp w x→(inn w x (w.length - k) k).2=lcp w x∧((inn w x (w.length - k) k).1 < 0↔ltx x w=true)
  | [],x,k,h=>by
    have hk:k=0:=Nat.le_zero.mp h
    subst hk
    cases x <;> exact ⟨rfl,by simp [inn,ltx]⟩
  | a::w,[],k,h=>by
    have hk:k=0:=Nat.le_zero.mp h
    subst hk
    refine ⟨?_,?_⟩ <;> simp [inn,lcp,ltx]
  | a::w,b::x,0,h=>by
    have e:(a::w).length - 0=w.length+1:=rfl
    rw [e]
    unfold inn lcp ltx
    simp only [List.length_cons,List.getD_cons_zero]
    rw [if_neg (by lia)]
    by_cases hab:a=b
    · subst hab
      simp only [Int.sub_self,ne_eq,not_true,if_false,if_true]
      rw [show w.length=w.length - 0 from rfl,inn_cons]
      have:=inn_spec w x 0 (Nat.zero_le _)
      exact ⟨by rw [this.1],this.2⟩
    · have:((b:Nat):Int) - ((a:Nat):Int)≠0:=by lia
      rw [if_pos this,if_neg hab,if_neg (Ne.symm hab)]
      refine ⟨rfl,?_⟩
      simp only [decide_eq_true_eq]
      lia
  | a::w,b::x,k+1,h=>by
    unfold lcp at h
    by_cases hab:a=b
    · subst hab
      rw [if_pos rfl] at h
      have h':k≤lcp w x:=by lia
      have:=inn_spec w x k h'
      rw [show (a::w).length - (k+1)=w.length - k from by simp,inn_cons]
      unfold lcp ltx
      simp only [if_true]
      exact ⟨by rw [this.1],this.2⟩
    · rw [if_neg hab] at h
      lia
theorem kR:∀ {x w u:T},ltx x w=true→ltx w u=true→ltx x u=true
  | x,w,[],_,h=>by cases w <;> cases h
  | x,[],a::u,h,_=>by cases x <;> cases h
  | [],c::w,a::u,_,_=>rfl
  | b::x,c::w,a::u,h,h2=>by
    unfold ltx at h h2 ⊢
    by_cases hbc:b=c
    · subst hbc
      rw [if_pos rfl] at h
      by_cases hba:b=a
      · subst hba
        rw [if_pos rfl] at h2 ⊢
        exact kR h h2
      · rw [if_neg hba] at h2 ⊢; exact h2
    · rw [if_neg hbc] at h
      have h:=of_decide_eq_true h
      by_cases hca:c=a
      · subst hca
        rw [if_neg hbc]; exact decide_eq_true h
      · rw [if_neg hca] at h2
        have h2:=of_decide_eq_true h2
        rw [if_neg (by lia)]
        exact decide_eq_true (by lia)
theorem nE:∀ {a b c x:T},ltx a b=true→ltx b c=true→min (lcp a x) (lcp c x)≤lcp b x
  | [],b,c,x,_,_=>by simp [lcp]
  | _::_,_,[],x,_,_=>by simp [lcp]
  | _,_,_::_,[],_,_=>by
    rename_i a b p c _ _
    have:lcp (p::c) []=0:=rfl
    lia
  | p::a,[],_,_,h,_=>by cases h
  | p::a,q::b,r::c,y::x,h,h2=>by
    unfold ltx at h h2
    unfold lcp
    by_cases hpy:p=y
    · by_cases hry:r=y
      · subst hpy
        subst hry
        by_cases hq:q=r
        · subst hq
          rw [if_pos rfl] at h h2
          simp only [if_true]
          have:=nE (x:=x) h h2
          lia
        · rw [if_neg (Ne.symm hq)] at h
          rw [if_neg hq] at h2
          have h:=of_decide_eq_true h
          have h2:=of_decide_eq_true h2
          lia
      · rw [if_neg hry]; lia
    · rw [if_neg hpy]; lia
noncomputable abbrev Tab:=List (T×Int×Int)
section
variable (rv:T→T) (t:Tab) (x:T)
noncomputable def wd (k:Nat):T:=rv ((t[k]?).elim [] (·.1))
noncomputable def Srt:Prop:=∀ i j,i < j→j < t.length→ltx (wd rv t i) (wd rv t j)=true
structure Res (i ci:Nat):Prop where
  lt:i < t.length
  at_:(ltx x (wd rv t i)=false∧ci=lcp (wd rv t i) x∧∀ q,i < q→q < t.length→ltx x (wd rv t q)=true)∨(i=0∧ci=0∧ltx x (wd rv t 0)=true)
structure Hd (i j ci cj:Nat) (fk:Bool):Prop where
  ij:i < j
  jm:j≤t.length
  lo:(ltx x (wd rv t i)=false∧ci=lcp (wd rv t i) x)∨(i=0∧ci=0)
  hi:(j=t.length∧cj=0)∨(j < t.length∧ltx x (wd rv t j)=true∧cj=lcp (wd rv t j) x)
  fk:fk=true→i=0∧j=1
end
theorem outr_ok {rv:T→T} (hrv:∀ w,(rv w).length=w.length) {t:Tab} {x:T} (hs:Srt rv t):∀ (N i j ci cj:Nat) (fk:Bool),2 * (j - i)+(if fk then 0 else 1)≤N→Hd rv t x i j ci cj fk →
    ∃ R:Nat×Nat,outr rv t x (N+1) i j ci cj fk=some R∧Res rv t x R.1 R.2:=by
  intro N
  induction N with
  | zero=>intro i j ci cj fk h H; have:=H.ij; lia
  | succ N ih =>
  intro i j ci cj fk hN H
  have hij:=H.ij
  have hjm:=H.jm
  obtain ⟨k,hk⟩:∃ k,k=i+(j - i) / 2:=⟨_,rfl⟩
  have hkj:k < j:=by lia
  have hkm:k < t.length:=by lia
  have hik:i≤k:=by lia
  have hte:t[k]?=some t[k]:=List.getElem?_eq_getElem hkm
  have hwd:wd rv t k=rv (t[k]).1:=by unfold wd; rw [hte]; rfl
  have hlen:(t[k]).1.length=(wd rv t k).length:=by rw [hwd,hrv]
  -- the common beginning so far
  have hcm:min ci cj≤lcp (wd rv t k) x:=by
    rcases H.lo with ⟨h1,h2⟩ | ⟨h1,h2⟩
    · rcases H.hi with ⟨h3,h4⟩ | ⟨h3,h4,h5⟩
      · lia
      · by_cases e:k=i
        · rw [e,← h2]; lia
        · have:=nE (x:=x) (hs i k (by lia) hkm) (hs k j hkj h3)
          lia
    · lia
  have hcl:min ci cj≤(wd rv t k).length:=Nat.le_trans hcm (lcp_le_l _ _)
  have hin:=inn_spec (wd rv t k) x (min ci cj) hcm
  unfold outr
  rw [← hk,hte]
  dsimp only
  rw [if_neg (by rw [hlen]; lia),hlen,← hwd]
  obtain ⟨h1,h2⟩:=hin
  generalize inn (wd rv t k) x ((wd rv t k).length - min ci cj) (min ci cj)=r at h1 h2
  obtain ⟨df,cm⟩:=r
  dsimp only at h1 h2 ⊢
  subst h1
  by_cases hdf:df < 0
  · rw [if_pos hdf]
    have hlt:=h2.mp hdf
    have above:∀ q,k≤q→q < t.length→ltx x (wd rv t q)=true:=fun q hq hq2=>by
      by_cases e:k=q
      · rw [← e]; exact hlt
      · exact kR hlt (hs k q (by lia) hq2)
    by_cases c1:k - i≤1
    · rw [if_pos c1]
      by_cases c2:0 < i
      · rw [if_pos c2]
        rcases H.lo with ⟨g1,g2⟩ | ⟨g1,g2⟩
        · refine ⟨_,rfl,by lia,.inl ⟨g1,g2,fun q hq hq2=>?_⟩⟩
          by_cases e:k=i
          · rw [e] at hlt; rw [hlt] at g1; cases g1
          · exact above q (by lia) hq2
        · lia
      · rw [if_neg c2]
        have i0:i=0:=by lia
        subst i0
        by_cases c3:k=0
        · rw [if_pos c3]
          rw [c3] at hlt
          rcases H.lo with ⟨g1,g2⟩ | ⟨g1,g2⟩
          · rw [hlt] at g1; cases g1
          · exact ⟨_,rfl,by lia,.inr ⟨rfl,g2,hlt⟩⟩
        · rw [if_neg c3]
          cases hfk:fk with
          | true=>have:=(H.fk hfk).2; lia
          | false =>
            rw [if_neg (by decide)]
            have k1:k=1:=by lia
            refine ih 0 k ci _ true ?_ ⟨by lia,by lia,H.lo,.inr ⟨hkm,hlt,rfl⟩,fun _=>⟨rfl,k1⟩⟩
            rw [hfk] at hN
            simp at hN ⊢
            lia
    · rw [if_neg c1]
      refine ih i k ci _ fk (by lia) ⟨by lia,by lia,H.lo,.inr ⟨hkm,hlt,rfl⟩,fun e=>?_⟩
      have:=H.fk e
      lia
  · rw [if_neg hdf]
    have hge:ltx x (wd rv t k)=false:=by
      cases e:ltx x (wd rv t k) with
      | false=>rfl
      | true=>exact (hdf (h2.mpr e)).elim
    have above:∀ q,j≤q→q < t.length→ltx x (wd rv t q)=true:=fun q hq hq2=>by
      rcases H.hi with ⟨h3,h4⟩ | ⟨h3,h4,h5⟩
      · lia
      · by_cases e:j=q
        · rw [← e]; exact h4
        · exact kR h4 (hs j q (by lia) hq2)
    have done:j - k≤1→Res rv t x k (lcp (wd rv t k) x):=fun c=>⟨hkm,.inl ⟨hge,rfl,fun q hq hq2=>above q (by lia) hq2⟩⟩
    by_cases c1:j - k≤1
    · rw [if_pos c1]
      by_cases c2:0 < k
      · rw [if_pos c2]; exact ⟨_,rfl,done c1⟩
      · rw [if_neg c2]
        by_cases c3:j=k
        · lia
        · rw [if_neg c3]
          cases hfk:fk with
          | true=>rw [if_pos rfl]; exact ⟨_,rfl,done c1⟩
          | false =>
            rw [if_neg (by decide)]
            refine ih k j _ cj true ?_ ⟨hkj,hjm,.inl ⟨hge,rfl⟩,H.hi,fun _=>⟨by lia,by lia⟩⟩
            rw [hfk] at hN
            simp at hN ⊢
            lia
    · rw [if_neg c1]
      have hki:i < k:=by lia
      refine ih k j _ cj fk (by lia) ⟨hkj,hjm,.inl ⟨hge,rfl⟩,H.hi,fun e=>?_⟩
      have:=H.fk e
      lia
theorem outr_start {rv:T→T} (hrv:∀ w,(rv w).length=w.length) {t:Tab} {x:T} (hs:Srt rv t) (h0:0 < t.length):∃ n R,outr rv t x n 0 t.length 0 0 false=some R∧Res rv t x R.1 R.2:=by
  obtain ⟨R,h1,h2⟩:=outr_ok hrv hs (2 * t.length+1) 0 t.length 0 0 false (by simp) ⟨h0,Nat.le_refl _,.inr ⟨rfl,rfl⟩,.inl ⟨rfl,rfl⟩,fun e=>by cases e⟩
  exact ⟨_,R,h1,h2⟩
theorem lH:∀ {u x:T},u <+: x→ltx x u=false
  | [],x,_=>by cases x <;> rfl
  | a::u,[],h=>by simp at h
  | a::u,b::x,h=>by
    obtain ⟨rfl,h'⟩:=List.cons_prefix_cons.mp h
    unfold ltx
    rw [if_pos rfl]
    exact lH h'
theorem jI:∀ {u w x:T},u <+: x→ltx x w=false→ltx u w=true→u <+: w
  | [],w,x,_,_,_=>List.nil_prefix
  | a::u,[],x,_,_,h=>by cases h
  | a::u,c::w,[],h,_,_=>by simp at h
  | a::u,c::w,b::x,h,h2,h3=>by
    obtain ⟨rfl,h'⟩:=List.cons_prefix_cons.mp h
    unfold ltx at h2 h3
    by_cases e:a=c
    · subst e
      rw [if_pos rfl] at h2 h3
      exact List.cons_prefix_cons.mpr ⟨rfl,jI h' h2 h3⟩
    · rw [if_neg e] at h2 h3
      rw [h2] at h3
      cases h3
theorem pre_lcp:∀ {u w x:T},u <+: w→u.length≤lcp w x→u <+: x
  | [],w,x,_,_=>List.nil_prefix
  | a::u,[],x,h,_=>by simp at h
  | a::u,c::w,[],h,h2=>by simp [lcp] at h2
  | a::u,c::w,b::x,h,h2=>by
    obtain ⟨rfl,h'⟩:=List.cons_prefix_cons.mp h
    unfold lcp at h2
    by_cases e:a=b
    · subst e
      rw [if_pos rfl] at h2
      exact List.cons_prefix_cons.mpr ⟨rfl,pre_lcp h' (by simpa using h2)⟩
    · rw [if_neg e] at h2
      simp at h2
section
variable (rv:T→T) (t:Tab) (x:T)
noncomputable def Lnk:Prop:=∀ k e,t[k]?=some e →
  (e.2.1 < 0∧∀ q,q < t.length→wd rv t q <+: wd rv t k→wd rv t q=wd rv t k) ∨
  (0≤e.2.1∧e.2.1.toNat < t.length∧wd rv t e.2.1.toNat <+: wd rv t k∧(wd rv t e.2.1.toNat).length < (wd rv t k).length ∧
    ∀ q,q < t.length→wd rv t q <+: wd rv t k→wd rv t q=wd rv t k∨(wd rv t q).length≤(wd rv t e.2.1.toNat).length)
noncomputable def Best:Option (T×Int×Int)→Prop
  | none=>∀ q,q < t.length→¬ wd rv t q <+: x
  | some e=>∃ k,t[k]?=some e∧wd rv t k <+: x∧∀ q,q < t.length→wd rv t q <+: x→wd rv t q <+: wd rv t k
end
theorem chase_ok {rv:T→T} (hrv:∀ w,(rv w).length=w.length) {t:Tab} {x:T} (hl:Lnk rv t) {ci:Nat}:∀ (n k:Nat),(wd rv t k).length < n→k < t.length →
    (∀ u,u <+: wd rv t k→u.length≤ci→u <+: x)→(∀ q,q < t.length→wd rv t q <+: x→wd rv t q <+: wd rv t k)→(∀ q,q < t.length→wd rv t q <+: x→(wd rv t q).length≤ci)→∃ Q,chase t ci n k=some Q∧Best rv t x Q:=by
  intro n
  induction n with
  | zero=>intro k h; lia
  | succ n ih =>
  intro k hn hk p1 p2 p3
  have hte:t[k]?=some t[k]:=List.getElem?_eq_getElem hk
  have hwd:wd rv t k=rv (t[k]).1:=by unfold wd; rw [hte]; rfl
  have hlen:(t[k]).1.length=(wd rv t k).length:=by rw [hwd,hrv]
  unfold chase
  rw [hte]
  dsimp only
  by_cases c1:(t[k]).1.length≤ci
  · rw [if_pos c1]
    exact ⟨_,rfl,k,hte,p1 _ (List.prefix_refl _) (by lia),p2⟩
  · rw [if_neg c1]
    by_cases hkx:wd rv t k <+: x
    · have:=p3 k hk hkx; lia
    · rcases hl k _ hte with ⟨g1,g2⟩ | ⟨g1,g2,g3,g4,g5⟩
      · rw [if_pos g1]
        refine ⟨_,rfl,fun q hq h=>?_⟩
        have:=g2 q hq (p2 q hq h)
        exact hkx (this▸h)
      · rw [if_neg (by lia)]
        refine ih _ (by lia) g2 (fun u hu hc=>p1 u (hu.trans g3) hc) (fun q hq h=>?_) p3
        rcases g5 q hq (p2 q hq h) with e | e
        · exact (hkx (e▸h)).elim
        · exact List.prefix_of_prefix_length_le (p2 q hq h) g3 e
theorem lcp_ge:∀ {u w x:T},u <+: w→u <+: x→u.length≤lcp w x
  | [],w,x,_,_=>Nat.zero_le _
  | a::u,[],x,h,_=>by simp at h
  | a::u,c::w,[],_,h=>by simp at h
  | a::u,c::w,b::x,h,h2=>by
    obtain ⟨rfl,h'⟩:=List.cons_prefix_cons.mp h
    obtain ⟨rfl,h2'⟩:=List.cons_prefix_cons.mp h2
    unfold lcp
    rw [if_pos rfl]
    simp only [List.length_cons]
    exact Nat.succ_le_succ (lcp_ge h' h2')
theorem search_ok {rv:T→T} (hrv:∀ w,(rv w).length=w.length) {t:Tab} (x:T) (hs:Srt rv t) (hl:Lnk rv t) (h0:0 < t.length) :
    ∃ n n' R Q,outr rv t x n 0 t.length 0 0 false=some R∧chase t R.2 n' R.1=some Q∧Best rv t x Q:=by
  obtain ⟨n,R,h1,h2⟩:=outr_start hrv (x:=x) hs h0
  have key:(∀ u,u <+: wd rv t R.1→u.length≤R.2→u <+: x)∧(∀ q,q < t.length→wd rv t q <+: x→wd rv t q <+: wd rv t R.1)∧(∀ q,q < t.length→wd rv t q <+: x→(wd rv t q).length≤R.2):=by
    rcases h2.at_ with ⟨g1,g2,g3⟩ | ⟨g1,g2,g3⟩
    · have p2:∀ q,q < t.length→wd rv t q <+: x→wd rv t q <+: wd rv t R.1:=fun q hq h=>by
        rcases Nat.lt_trichotomy q R.1 with e | e | e
        · exact jI h g1 (hs q R.1 e h2.lt)
        · rw [e]; exact List.prefix_refl _
        · have:=g3 q e hq
          rw [lH h] at this
          cases this
      exact ⟨fun u hu hc=>pre_lcp hu (by lia),p2,fun q hq h=>by rw [g2]; exact lcp_ge (p2 q hq h) h⟩
    · have no:∀ q,q < t.length→¬ wd rv t q <+: x:=fun q hq h=>by
        have h3:ltx x (wd rv t q)=true:=by
          by_cases e:q=0
          · rw [e]; exact g3
          · exact kR g3 (hs 0 q (by lia) hq)
        rw [lH h] at h3
        cases h3
      refine ⟨fun u hu hc=>?_,fun q hq h=>(no q hq h).elim,fun q hq h=>(no q hq h).elim⟩
      have:u=[]:=List.length_eq_zero_iff.mp (by lia)
      rw [this]
      exact List.nil_prefix
  obtain ⟨Q,h3,h4⟩:=chase_ok hrv hl (x:=x) (ci:=R.2) _ R.1 (Nat.lt_succ_self _) h2.lt key.1 key.2.1 key.2.2
  exact ⟨n,_,R,Q,h1,h3,h4⟩
end Esp
namespace Esp
open PySem PySem.W PySem.Calls PyProof.Rows Mine PySem.SeqAt
noncomputable def srtB (rv:T→T) (t:Tab):Bool:=(List.range t.length).all fun i=>(List.range t.length).all fun j=>!(decide (i < j)) || ltx (wd rv t i) (wd rv t j)
theorem srt_of {rv:T→T} {t:Tab} (h:srtB rv t=true):Srt rv t:=fun i j hij hj=>by
  have h1:=List.all_eq_true.mp (List.all_eq_true.mp h i (List.mem_range.mpr (by lia))) j (List.mem_range.mpr hj)
  simpa [hij] using h1
noncomputable def lnkB (rv:T→T) (t:Tab):Bool:=(List.range t.length).all fun k=>match t[k]? with
  | none=>true
  | some e=>if e.2.1 < 0 then (List.range t.length).all fun q=>!((wd rv t q).isPrefixOf (wd rv t k)) || wd rv t q == wd rv t k
    else decide (e.2.1.toNat < t.length) && (wd rv t e.2.1.toNat).isPrefixOf (wd rv t k) && decide ((wd rv t e.2.1.toNat).length < (wd rv t k).length) &&
      (List.range t.length).all fun q=>!((wd rv t q).isPrefixOf (wd rv t k)) || wd rv t q == wd rv t k || decide ((wd rv t q).length≤(wd rv t e.2.1.toNat).length)
theorem lnk_of {rv:T→T} {t:Tab} (h:lnkB rv t=true):Lnk rv t:=fun k e hk=>by
  have hkl:k < t.length:=(List.getElem?_eq_some_iff.mp hk).1
  have h1:=List.all_eq_true.mp h k (List.mem_range.mpr hkl)
  rw [hk] at h1
  dsimp only at h1
  by_cases c:e.2.1 < 0
  · rw [if_pos c] at h1
    refine .inl ⟨c,fun q hq hp=>?_⟩
    have:=List.all_eq_true.mp h1 q (List.mem_range.mpr hq)
    rw [List.isPrefixOf_iff_prefix.mpr hp] at this
    simpa using this
  · rw [if_neg c] at h1
    simp only [Bool.and_eq_true,decide_eq_true_eq] at h1
    obtain ⟨⟨⟨a1,a2⟩,a3⟩,a4⟩:=h1
    refine .inr ⟨by lia,a1,List.isPrefixOf_iff_prefix.mp a2,a3,fun q hq hp=>?_⟩
    have:=List.all_eq_true.mp a4 q (List.mem_range.mpr hq)
    rw [List.isPrefixOf_iff_prefix.mpr hp] at this
    simpa using this
structure Good (rv:T→T) (t:Tab):Prop where
  s:Srt rv t
  l:Lnk rv t
  p:0 < t.length
  len:t.length≤1000
  all:∀ e∈t,e.1.length≤lim
theorem gN {rv:T→T} {t:Tab} (h1:srtB rv t=true) (h2:lnkB rv t=true) (h3:(decide (0 < t.length) && decide (t.length≤1000) && t.all fun e=>decide (e.1.length≤100))=true):Good rv t:=by
  simp only [Bool.and_eq_true,decide_eq_true_eq] at h3
  exact ⟨srt_of h1,lnk_of h2,h3.1.1,h3.1.2,fun e he=>by
    have:=List.all_eq_true.mp h3.2 e he
    have:=of_decide_eq_true this
    show _≤65536
    lia⟩
theorem g0:Good id A0:=gN (by decide +kernel) (by decide +kernel) (by decide +kernel)
theorem g1:Good id A1:=gN (by decide +kernel) (by decide +kernel) (by decide +kernel)
theorem g2:Good List.reverse A2:=gN (by decide +kernel) (by decide +kernel) (by decide +kernel)
theorem g3:Good List.reverse A3:=gN (by decide +kernel) (by decide +kernel) (by decide +kernel)
theorem g4:Good List.reverse A4:=gN (by decide +kernel) (by decide +kernel) (by decide +kernel)
theorem g5:Good List.reverse A5:=gN (by decide +kernel) (by decide +kernel) (by decide +kernel)
theorem g6:Good List.reverse A6:=gN (by decide +kernel) (by decide +kernel) (by decide +kernel)
theorem g7:Good List.reverse A7:=gN (by decide +kernel) (by decide +kernel) (by decide +kernel)
theorem g8:Good List.reverse A8:=gN (by decide +kernel) (by decide +kernel) (by decide +kernel)
theorem g9:Good List.reverse A9:=gN (by decide +kernel) (by decide +kernel) (by decide +kernel)
theorem fa_f {t:Tab} (G:Good id t) {cur:T} {c:Nat} (hc:c≤cur.length) (hcl:cur.length≤65536):∃ Q,Best id t (cur.drop c) Q∧∀ {d:Nat} {x dx:Addr} {lb bra ket:Int},
    CallOK (d+1) 133 [.self x,.tab t] (.some (x,dx,FF cur c cur.length lb bra ket)) (.int (hit Q)) (.some (x,dx,FF cur (hitF c Q) cur.length lb bra ket)):=by
  obtain ⟨n,n',R,Q,h1,h2,h3⟩:=search_ok (rv:=id) Zn (cur.drop c) G.s G.l G.p
  exact ⟨Q,h3,fa_ok (lm:=0) hc hcl G.all G.len h1 h2⟩
theorem fa_b {t:Tab} (G:Good List.reverse t) {cur:T} {c:Nat} (hc:c≤cur.length) (hcl:cur.length≤65536):∃ Q,Best List.reverse t (cur.take c).reverse Q∧∀ {d:Nat} {x dx:Addr} {lm bra ket:Int},
    CallOK (d+1) 140 [.self x,.tab t] (.some (x,dx,FF cur c lm 0 bra ket)) (.int (hit Q)) (.some (x,dx,FF cur (hitB c Q) lm 0 bra ket)):=by
  obtain ⟨n,n',R,Q,h1,h2,h3⟩:=search_ok (rv:=List.reverse) (fun _=>List.length_reverse) (cur.take c).reverse G.s G.l G.p
  exact ⟨Q,h3,fa_ok_b (lb:=0) hc hcl G.all G.len h1 h2⟩
noncomputable def Opt (ch:Nat) (cur:T) (n c:Nat):Prop:=(0 < n∧cur[n - 1]?=some ch∧c=n - 1)∨((n=0∨∃ b,0 < n∧cur[n - 1]?=some b∧b≠ch)∧c=n)
theorem eS {cur:T} {n b:Nat} (h0:0 < n) (h:cur[n - 1]?=some b):cur[((n:Int) - 1).toNat]?=some b:=by
  rw [show ((n:Int) - 1).toNat=n - 1 from by lia]; exact h
theorem lW {b ch:Nat} (h:b≠ch):[b]≠[ch]:=by simp [h]
theorem pron_n {d:Nat} {x dx:Addr} {cur:T} {n c:Nat} {lm bra ket:Int} (h:Opt 110 cur n c):Ex d (aE (stC 6 5)) (nthS (aG (stC 6 5)) 2) ⟨[("self",.self x),("v_1",.int (lm - n))],.some (x,dx,FF cur n lm 0 bra ket)⟩ .next ⟨[("self",.self x),("v_1",.int (lm - n))],.some (x,dx,FF cur c lm 0 bra ket)⟩:=by
  rcases h with ⟨h0,h1,hc⟩ | ⟨h1,hc⟩
  · have h2:=eS h0 h1
    have e:(n:Int) - 1=(c:Int):=by lia
    refine' (Ay (Aa (Af (Bo (Ac (Aj Zl (by rfl) aJ (by rfl) Zn) (Aj Zl (by rfl) aH (by rfl) Zn) (dF (by lia))) (Bo (Ac (Bu (Aj Zl (by rfl) aU (by rfl) Zn) (Ag (Aj Zl (by rfl) aJ (by rfl) Zn) Ae) (by lia) (by first | assumption | (simp; assumption) | simp_all)) (Ar (x:=[110]) (by rfl) Zb) (gR (by first | assumption | decide | (simp; assumption) | simp_all))) Ci)) Ad) (Aa (Bv ⟨[("self",.self x),("v_1",.int (lm - n))],.some (x,dx,FF cur c lm 0 bra ket)⟩ (Ck Zl (by rfl) aJ (by rfl) Ae (by rfl) Zb) (by rw [e]; rfl)) Ad)) (by simp))
  · rw [hc]
    have e:lm - (lm - (n:Int))=(n:Int):=by lia
    rcases h1 with h1 | ⟨b,h0,h1,h3⟩
    · refine' (As (Ab (Ak (Tst.or_t (Ac (Aj Zl (by rfl) aJ (by rfl) Zn) (Aj Zl (by rfl) aH (by rfl) Zn) (cS (by lia)))) (Aa (Bv ⟨[("self",.self x),("v_1",.int (lm - n))],.some (x,dx,FF cur n lm 0 bra ket)⟩ (Bx (Ag (Aj Zl (by rfl) dD (by rfl) Zn) Zl) Zl (by rfl) aJ Zb cW Zn) (by rw [e]; rfl)) (Ab (Ao (by rfl)) (by simp)))) (by simp)) (by rfl))
    · have h2:=eS h0 h1
      have h4:=lW h3
      refine' (As (Ab (Ak (Bo (Ac (Aj Zl (by rfl) aJ (by rfl) Zn) (Aj Zl (by rfl) aH (by rfl) Zn) (dF (by lia))) (Tst.or_t (Ac (Bu (Aj Zl (by rfl) aU (by rfl) Zn) (Ag (Aj Zl (by rfl) aJ (by rfl) Zn) Ae) (by lia) (by first | assumption | (simp; assumption) | simp_all)) (Ar (x:=[110]) (by rfl) Zb) (jG (by first | assumption | decide | (simp; assumption) | simp_all))))) (Aa (Bv ⟨[("self",.self x),("v_1",.int (lm - n))],.some (x,dx,FF cur n lm 0 bra ket)⟩ (Bx (Ag (Aj Zl (by rfl) dD (by rfl) Zn) Zl) Zl (by rfl) aJ Zb cW Zn) (by rw [e]; rfl)) (Ab (Ao (by rfl)) (by simp)))) (by simp)) (by rfl))
theorem pron_hs_ok {d:Nat} {x dx:Addr} {cur:T} {c c':Nat} {lm bra ket:Int} {v_1:Int} (h:(c=0∧c'=0)∨(0 < c∧cur[c - 1]?=some 45∧c'=c - 1)):Ex d (aE (stC 6 5)) (nthS (aG (stC 6 5)) 5) ⟨[("self",.self x),("v_1",.int v_1)],.some (x,dx,FF cur c lm 0 bra ket)⟩ .next ⟨[("self",.self x),("v_1",.int v_1)],.some (x,dx,FF cur c' lm 0 bra ket)⟩:=by
  rcases h with ⟨h1,h2⟩ | ⟨h0,h1,hc⟩
  · rw [h1,h2]
    refine' (Az (Bi (Ai Ap Zn) (Ab (Ay (Aa (Af (Ac (Aj Zl (by rfl) aJ (by rfl) Zn) (Aj Zl (by rfl) aH (by rfl) Zn) (dT (by lia))) Ad) (Ab Bq (by simp))) (by simp)) (by simp))))
  · have h2:=eS h0 h1
    have e:(c:Int) - 1=(c':Int):=by lia
    refine' (Az (Bi (Ai Ap Zn) (Aa (As (Ab (Ak (Ac (Aj Zl (by rfl) aJ (by rfl) Zn) (Aj Zl (by rfl) aH (by rfl) Zn) (eC (by lia))) (Ab (Ao (by rfl)) (by simp))) (by simp)) (by rfl)) (Aa (Af (Bo (Ac (Aj Zl (by rfl) aJ (by rfl) Zn) (Aj Zl (by rfl) aH (by rfl) Zn) (dF (by lia))) (Bo (Ac (Bu (Aj Zl (by rfl) aU (by rfl) Zn) (Ag (Aj Zl (by rfl) aJ (by rfl) Zn) Ae) (by lia) (by first | assumption | (simp; assumption) | simp_all)) (Ar (x:=[45]) (by rfl) Zb) (gR (by first | assumption | decide | (simp; assumption) | simp_all))) Ci)) Ad) (Aa (Bv ⟨[("self",.self x),("v_1",.int v_1)],.some (x,dx,FF cur c' lm 0 bra ket)⟩ (Ck Zl (by rfl) aJ (by rfl) Ae (by rfl) Zb) (by rw [e]; rfl)) (Ab Bq (by simp)))))))
theorem pron_hs_no {d:Nat} {x dx:Addr} {cur:T} {c b:Nat} {lm bra ket:Int} {v_1:Int} (h0:0 < c) (h1:cur[c - 1]?=some b) (h3:b≠45):Ex d (aE (stC 6 5)) (nthS (aG (stC 6 5)) 5) ⟨[("self",.self x),("v_1",.int v_1)],.some (x,dx,FF cur c lm 0 bra ket)⟩ (.ret (.bool false)) ⟨[("self",.self x),("v_1",.int v_1)],.some (x,dx,FF cur c lm 0 bra ket)⟩:=by
  have h2:=eS h0 h1
  have h4:=lW h3
  refine' (Az (Whl.ret (Ai Ap Zn) (Aa (As (Ab (Ak (Ac (Aj Zl (by rfl) aJ (by rfl) Zn) (Aj Zl (by rfl) aH (by rfl) Zn) (eC (by lia))) (Ab (Ao (by rfl)) (by simp))) (by simp)) (by rfl)) (Ab (Ak (Bo (Ac (Aj Zl (by rfl) aJ (by rfl) Zn) (Aj Zl (by rfl) aH (by rfl) Zn) (dF (by lia))) (Tst.or_t (Ac (Bu (Aj Zl (by rfl) aU (by rfl) Zn) (Ag (Aj Zl (by rfl) aJ (by rfl) Zn) Ae) (by lia) (by first | assumption | (simp; assumption) | simp_all)) (Ar (x:=[45]) (by rfl) Zb) (jG (by first | assumption | decide | (simp; assumption) | simp_all))))) (Ab (Ax Ap) (by simp))) (by simp)))))
theorem ujn_n {d:Nat} {x dx:Addr} {cur:T} {n c:Nat} {lm bra ket:Int} (h:Opt 110 cur n c):Ex d (aE (stC 6 7)) (nthS (aG (stC 6 7)) 2) ⟨[("self",.self x),("v_1",.int (lm - n))],.some (x,dx,FF cur n lm 0 bra ket)⟩ .next ⟨[("self",.self x),("v_1",.int (lm - n))],.some (x,dx,FF cur c lm 0 bra ket)⟩:=by
  rcases h with ⟨h0,h1,hc⟩ | ⟨h1,hc⟩
  · have h2:=eS h0 h1
    have e:(n:Int) - 1=(c:Int):=by lia
    refine' (Ay (Aa (Af (Bo (Ac (Aj Zl (by rfl) aJ (by rfl) Zn) (Aj Zl (by rfl) aH (by rfl) Zn) (dF (by lia))) (Bo (Ac (Bu (Aj Zl (by rfl) aU (by rfl) Zn) (Ag (Aj Zl (by rfl) aJ (by rfl) Zn) Ae) (by lia) (by first | assumption | (simp; assumption) | simp_all)) (Ar (x:=[110]) (by rfl) Zb) (gR (by first | assumption | decide | (simp; assumption) | simp_all))) Ci)) Ad) (Aa (Bv ⟨[("self",.self x),("v_1",.int (lm - n))],.some (x,dx,FF cur c lm 0 bra ket)⟩ (Ck Zl (by rfl) aJ (by rfl) Ae (by rfl) Zb) (by rw [e]; rfl)) Ad)) (by simp))
  · rw [hc]
    have e:lm - (lm - (n:Int))=(n:Int):=by lia
    rcases h1 with h1 | ⟨b,h0,h1,h3⟩
    · refine' (As (Ab (Ak (Tst.or_t (Ac (Aj Zl (by rfl) aJ (by rfl) Zn) (Aj Zl (by rfl) aH (by rfl) Zn) (cS (by lia)))) (Aa (Bv ⟨[("self",.self x),("v_1",.int (lm - n))],.some (x,dx,FF cur n lm 0 bra ket)⟩ (Bx (Ag (Aj Zl (by rfl) dD (by rfl) Zn) Zl) Zl (by rfl) aJ Zb cW Zn) (by rw [e]; rfl)) (Ab (Ao (by rfl)) (by simp)))) (by simp)) (by rfl))
    · have h2:=eS h0 h1
      have h4:=lW h3
      refine' (As (Ab (Ak (Bo (Ac (Aj Zl (by rfl) aJ (by rfl) Zn) (Aj Zl (by rfl) aH (by rfl) Zn) (dF (by lia))) (Tst.or_t (Ac (Bu (Aj Zl (by rfl) aU (by rfl) Zn) (Ag (Aj Zl (by rfl) aJ (by rfl) Zn) Ae) (by lia) (by first | assumption | (simp; assumption) | simp_all)) (Ar (x:=[110]) (by rfl) Zb) (jG (by first | assumption | decide | (simp; assumption) | simp_all))))) (Aa (Bv ⟨[("self",.self x),("v_1",.int (lm - n))],.some (x,dx,FF cur n lm 0 bra ket)⟩ (Bx (Ag (Aj Zl (by rfl) dD (by rfl) Zn) Zl) Zl (by rfl) aJ Zb cW Zn) (by rw [e]; rfl)) (Ab (Ao (by rfl)) (by simp)))) (by simp)) (by rfl))
theorem ujn_j {d:Nat} {x dx:Addr} {cur:T} {n c:Nat} {lm bra ket:Int} {a:Int} (h:Opt 106 cur n c):Ex d (aE (stC 6 7)) (nthS (aG (stC 6 7)) 4) ⟨[("self",.self x),("v_1",.int a),("v_2",.int (lm - n))],.some (x,dx,FF cur n lm 0 bra ket)⟩ .next ⟨[("self",.self x),("v_1",.int a),("v_2",.int (lm - n))],.some (x,dx,FF cur c lm 0 bra ket)⟩:=by
  rcases h with ⟨h0,h1,hc⟩ | ⟨h1,hc⟩
  · have h2:=eS h0 h1
    have e:(n:Int) - 1=(c:Int):=by lia
    refine' (Ay (Aa (Af (Bo (Ac (Aj Zl (by rfl) aJ (by rfl) Zn) (Aj Zl (by rfl) aH (by rfl) Zn) (dF (by lia))) (Bo (Ac (Bu (Aj Zl (by rfl) aU (by rfl) Zn) (Ag (Aj Zl (by rfl) aJ (by rfl) Zn) Ae) (by lia) (by first | assumption | (simp; assumption) | simp_all)) (Ar (x:=[106]) (by rfl) Zb) (gR (by first | assumption | decide | (simp; assumption) | simp_all))) Ci)) Ad) (Aa (Bv ⟨[("self",.self x),("v_1",.int a),("v_2",.int (lm - n))],.some (x,dx,FF cur c lm 0 bra ket)⟩ (Ck Zl (by rfl) aJ (by rfl) Ae (by rfl) Zb) (by rw [e]; rfl)) Ad)) (by simp))
  · rw [hc]
    have e:lm - (lm - (n:Int))=(n:Int):=by lia
    rcases h1 with h1 | ⟨b,h0,h1,h3⟩
    · refine' (As (Ab (Ak (Tst.or_t (Ac (Aj Zl (by rfl) aJ (by rfl) Zn) (Aj Zl (by rfl) aH (by rfl) Zn) (cS (by lia)))) (Aa (Bv ⟨[("self",.self x),("v_1",.int a),("v_2",.int (lm - n))],.some (x,dx,FF cur n lm 0 bra ket)⟩ (Bx (Ag (Aj Zl (by rfl) dD (by rfl) Zn) Zl) Zl (by rfl) aJ Zb cW Zn) (by rw [e]; rfl)) (Ab (Ao (by rfl)) (by simp)))) (by simp)) (by rfl))
    · have h2:=eS h0 h1
      have h4:=lW h3
      refine' (As (Ab (Ak (Bo (Ac (Aj Zl (by rfl) aJ (by rfl) Zn) (Aj Zl (by rfl) aH (by rfl) Zn) (dF (by lia))) (Tst.or_t (Ac (Bu (Aj Zl (by rfl) aU (by rfl) Zn) (Ag (Aj Zl (by rfl) aJ (by rfl) Zn) Ae) (by lia) (by first | assumption | (simp; assumption) | simp_all)) (Ar (x:=[106]) (by rfl) Zb) (jG (by first | assumption | decide | (simp; assumption) | simp_all))))) (Aa (Bv ⟨[("self",.self x),("v_1",.int a),("v_2",.int (lm - n))],.some (x,dx,FF cur n lm 0 bra ket)⟩ (Bx (Ag (Aj Zl (by rfl) dD (by rfl) Zn) Zl) Zl (by rfl) aJ Zb cW Zn) (by rw [e]; rfl)) (Ab (Ao (by rfl)) (by simp)))) (by simp)) (by rfl))
theorem ujn_hs_ok {d:Nat} {x dx:Addr} {cur:T} {c c':Nat} {lm bra ket:Int} {v_1 v_2:Int} (h:(c=0∧c'=0)∨(0 < c∧cur[c - 1]?=some 45∧c'=c - 1)):Ex d (aE (stC 6 7)) (nthS (aG (stC 6 7)) 7) ⟨[("self",.self x),("v_1",.int v_1),("v_2",.int v_2)],.some (x,dx,FF cur c lm 0 bra ket)⟩ .next ⟨[("self",.self x),("v_1",.int v_1),("v_2",.int v_2)],.some (x,dx,FF cur c' lm 0 bra ket)⟩:=by
  rcases h with ⟨h1,h2⟩ | ⟨h0,h1,hc⟩
  · rw [h1,h2]
    refine' (Az (Bi (Ai Ap Zn) (Ab (Ay (Aa (Af (Ac (Aj Zl (by rfl) aJ (by rfl) Zn) (Aj Zl (by rfl) aH (by rfl) Zn) (dT (by lia))) Ad) (Ab Bq (by simp))) (by simp)) (by simp))))
  · have h2:=eS h0 h1
    have e:(c:Int) - 1=(c':Int):=by lia
    refine' (Az (Bi (Ai Ap Zn) (Aa (As (Ab (Ak (Ac (Aj Zl (by rfl) aJ (by rfl) Zn) (Aj Zl (by rfl) aH (by rfl) Zn) (eC (by lia))) (Ab (Ao (by rfl)) (by simp))) (by simp)) (by rfl)) (Aa (Af (Bo (Ac (Aj Zl (by rfl) aJ (by rfl) Zn) (Aj Zl (by rfl) aH (by rfl) Zn) (dF (by lia))) (Bo (Ac (Bu (Aj Zl (by rfl) aU (by rfl) Zn) (Ag (Aj Zl (by rfl) aJ (by rfl) Zn) Ae) (by lia) (by first | assumption | (simp; assumption) | simp_all)) (Ar (x:=[45]) (by rfl) Zb) (gR (by first | assumption | decide | (simp; assumption) | simp_all))) Ci)) Ad) (Aa (Bv ⟨[("self",.self x),("v_1",.int v_1),("v_2",.int v_2)],.some (x,dx,FF cur c' lm 0 bra ket)⟩ (Ck Zl (by rfl) aJ (by rfl) Ae (by rfl) Zb) (by rw [e]; rfl)) (Ab Bq (by simp)))))))
theorem ujn_hs_no {d:Nat} {x dx:Addr} {cur:T} {c b:Nat} {lm bra ket:Int} {v_1 v_2:Int} (h0:0 < c) (h1:cur[c - 1]?=some b) (h3:b≠45):Ex d (aE (stC 6 7)) (nthS (aG (stC 6 7)) 7) ⟨[("self",.self x),("v_1",.int v_1),("v_2",.int v_2)],.some (x,dx,FF cur c lm 0 bra ket)⟩ (.ret (.bool false)) ⟨[("self",.self x),("v_1",.int v_1),("v_2",.int v_2)],.some (x,dx,FF cur c lm 0 bra ket)⟩:=by
  have h2:=eS h0 h1
  have h4:=lW h3
  refine' (Az (Whl.ret (Ai Ap Zn) (Aa (As (Ab (Ak (Ac (Aj Zl (by rfl) aJ (by rfl) Zn) (Aj Zl (by rfl) aH (by rfl) Zn) (eC (by lia))) (Ab (Ao (by rfl)) (by simp))) (by simp)) (by rfl)) (Ab (Ak (Bo (Ac (Aj Zl (by rfl) aJ (by rfl) Zn) (Aj Zl (by rfl) aH (by rfl) Zn) (dF (by lia))) (Tst.or_t (Ac (Bu (Aj Zl (by rfl) aU (by rfl) Zn) (Ag (Aj Zl (by rfl) aJ (by rfl) Zn) Ae) (by lia) (by first | assumption | (simp; assumption) | simp_all)) (Ar (x:=[45]) (by rfl) Zb) (jG (by first | assumption | decide | (simp; assumption) | simp_all))))) (Ab (Ax Ap) (by simp))) (by simp)))))
theorem unin_hs_ok {d:Nat} {x dx:Addr} {cur:T} {c c':Nat} {lm bra ket:Int} (h:(c=0∧c'=0)∨(0 < c∧cur[c - 1]?=some 45∧c'=c - 1)):Ex d (aE (stC 6 8)) (nthS (aG (stC 6 8)) 1) ⟨[("self",.self x)],.some (x,dx,FF cur c lm 0 bra ket)⟩ .next ⟨[("self",.self x)],.some (x,dx,FF cur c' lm 0 bra ket)⟩:=by
  rcases h with ⟨h1,h2⟩ | ⟨h0,h1,hc⟩
  · rw [h1,h2]
    refine' (Az (Bi (Ai Ap Zn) (Ab (Ay (Aa (Af (Ac (Aj Zl (by rfl) aJ (by rfl) Zn) (Aj Zl (by rfl) aH (by rfl) Zn) (dT (by lia))) Ad) (Ab Bq (by simp))) (by simp)) (by simp))))
  · have h2:=eS h0 h1
    have e:(c:Int) - 1=(c':Int):=by lia
    refine' (Az (Bi (Ai Ap Zn) (Aa (As (Ab (Ak (Ac (Aj Zl (by rfl) aJ (by rfl) Zn) (Aj Zl (by rfl) aH (by rfl) Zn) (eC (by lia))) (Ab (Ao (by rfl)) (by simp))) (by simp)) (by rfl)) (Aa (Af (Bo (Ac (Aj Zl (by rfl) aJ (by rfl) Zn) (Aj Zl (by rfl) aH (by rfl) Zn) (dF (by lia))) (Bo (Ac (Bu (Aj Zl (by rfl) aU (by rfl) Zn) (Ag (Aj Zl (by rfl) aJ (by rfl) Zn) Ae) (by lia) (by first | assumption | (simp; assumption) | simp_all)) (Ar (x:=[45]) (by rfl) Zb) (gR (by first | assumption | decide | (simp; assumption) | simp_all))) Ci)) Ad) (Aa (Bv ⟨[("self",.self x)],.some (x,dx,FF cur c' lm 0 bra ket)⟩ (Ck Zl (by rfl) aJ (by rfl) Ae (by rfl) Zb) (by rw [e]; rfl)) (Ab Bq (by simp)))))))
theorem unin_hs_no {d:Nat} {x dx:Addr} {cur:T} {c b:Nat} {lm bra ket:Int} (h0:0 < c) (h1:cur[c - 1]?=some b) (h3:b≠45):Ex d (aE (stC 6 8)) (nthS (aG (stC 6 8)) 1) ⟨[("self",.self x)],.some (x,dx,FF cur c lm 0 bra ket)⟩ (.ret (.bool false)) ⟨[("self",.self x)],.some (x,dx,FF cur c lm 0 bra ket)⟩:=by
  have h2:=eS h0 h1
  have h4:=lW h3
  refine' (Az (Whl.ret (Ai Ap Zn) (Aa (As (Ab (Ak (Ac (Aj Zl (by rfl) aJ (by rfl) Zn) (Aj Zl (by rfl) aH (by rfl) Zn) (eC (by lia))) (Ab (Ao (by rfl)) (by simp))) (by simp)) (by rfl)) (Ab (Ak (Bo (Ac (Aj Zl (by rfl) aJ (by rfl) Zn) (Aj Zl (by rfl) aH (by rfl) Zn) (dF (by lia))) (Tst.or_t (Ac (Bu (Aj Zl (by rfl) aU (by rfl) Zn) (Ag (Aj Zl (by rfl) aJ (by rfl) Zn) Ae) (by lia) (by first | assumption | (simp; assumption) | simp_all)) (Ar (x:=[45]) (by rfl) Zb) (jG (by first | assumption | decide | (simp; assumption) | simp_all))))) (Ab (Ax Ap) (by simp))) (by simp)))))
noncomputable def PR (fa:Addr) (cur:T) (b:Bool) (cur':T):Prop:=∀ bra ket:Int,∃ c' bra' ket':Int,∀ {d:Nat} {x dx:Addr},
  CallOK (d+4) fa [.self x] (.some (x,dx,FF cur cur.length cur.length 0 bra ket)) (.bool b) (.some (x,dx,FF cur' c' cur'.length 0 bra' ket'))
noncomputable def Bnd (cur:T) (c c':Nat):Prop:=(c=0∧c'=0)∨(0 < c∧cur[c - 1]?=some 45∧c'=c - 1)
noncomputable def NoBnd (cur:T) (c:Nat):Prop:=∃ b,0 < c∧cur[c - 1]?=some b∧b≠45
theorem sl0 {cur:T} {c:Nat} (h:c≤cur.length):sl cur 0 c=cur.take c:=by
  unfold sl
  rw [show ((0:Int)).toNat=0 from rfl,show ((c:Int) - 0).toNat=c from by lia,List.drop_zero]
theorem slEnd {cur:T}:sl cur cur.length cur.length=[]:=by
  unfold sl
  rw [show (((cur.length:Nat):Int) - cur.length).toNat=0 from by lia,List.take_zero]
theorem rcur_end {cur y:T} {c:Nat} (h:c≤cur.length):rcur cur c cur.length y=cur.take c++y:=by
  unfold rcur
  rw [sl0 h,slEnd,List.append_nil]
theorem Opt.le {ch:Nat} {cur:T} {n c:Nat} (h:Opt ch cur n c):c≤n:=by
  rcases h with ⟨_,_,h⟩ | ⟨_,h⟩ <;> lia
section
variable {d:Nat} {sc:Scope} {st st₁ st₂ st₃ st':Sx} {fl:Fl} {loc loc':Loc} {x dx:Addr} {cur cur':T} {c lm lb bra ket c' lm' lb' bra' ket' v v' b:Int} {p q po py px:Pos} {e:Expr}
theorem Ev.gCur (hs:loc.lookup ("self" : Str)=some (.self x)) (hl:sc.names.lookup ("self" : Str)=some .local):Ev d sc (.Attribute (.Name "self" p) "current" q) ⟨loc,.some (x,dx,FF cur c lm lb bra ket)⟩ (.str cur) ⟨loc,.some (x,dx,FF cur c lm lb bra ket)⟩ :=
  Aj (Ev.loc hs hl (by decide)) (by rfl) aU (by rfl) Zn
theorem Ev.gC (hs:loc.lookup ("self" : Str)=some (.self x)) (hl:sc.names.lookup ("self" : Str)=some .local):Ev d sc (.Attribute (.Name "self" p) "cursor" q) ⟨loc,.some (x,dx,FF cur c lm lb bra ket)⟩ (.int c) ⟨loc,.some (x,dx,FF cur c lm lb bra ket)⟩ :=
  Aj (Ev.loc hs hl (by decide)) (by rfl) aJ (by rfl) Zn
theorem Ev.gL (hs:loc.lookup ("self" : Str)=some (.self x)) (hl:sc.names.lookup ("self" : Str)=some .local):Ev d sc (.Attribute (.Name "self" p) "limit" q) ⟨loc,.some (x,dx,FF cur c lm lb bra ket)⟩ (.int lm) ⟨loc,.some (x,dx,FF cur c lm lb bra ket)⟩ :=
  Aj (Ev.loc hs hl (by decide)) (by rfl) dD (by rfl) Zn
theorem Ev.gB (hs:loc.lookup ("self" : Str)=some (.self x)) (hl:sc.names.lookup ("self" : Str)=some .local):Ev d sc (.Attribute (.Name "self" p) "limit_backward" q) ⟨loc,.some (x,dx,FF cur c lm lb bra ket)⟩ (.int lb) ⟨loc,.some (x,dx,FF cur c lm lb bra ket)⟩ :=
  Aj (Ev.loc hs hl (by decide)) (by rfl) aH (by rfl) Zn
theorem Ex.sC (h:Ev d sc e st (.int v) ⟨loc,.some (x,dx,FF cur c lm lb bra ket)⟩) (hs:loc.lookup ("self" : Str)=some (.self x)) (hl:sc.names.lookup ("self" : Str)=some .local)
    (hw:∀ env:Env,swapsWith e (some (.Attribute (.Name "self" py) "cursor" po)) p.line env=pure false) (ev:v=v') :
    Ex d sc (.Assign [.Attribute (.Name "self" py) "cursor" po] e p) st .next ⟨loc,.some (x,dx,FF cur v' lm lb bra ket)⟩:=by
  subst ev
  exact Bv _ (Bx h (Ev.loc hs hl (by decide)) (by rfl) aJ Zb cW hw) (by rfl)
theorem Ex.sB (h:Ev d sc e st (.int v) ⟨loc,.some (x,dx,FF cur c lm lb bra ket)⟩) (hs:loc.lookup ("self" : Str)=some (.self x)) (hl:sc.names.lookup ("self" : Str)=some .local)
    (hw:∀ env:Env,swapsWith e (some (.Attribute (.Name "self" py) "limit_backward" po)) p.line env=pure false) (ev:v=v') :
    Ex d sc (.Assign [.Attribute (.Name "self" py) "limit_backward" po] e p) st .next ⟨loc,.some (x,dx,FF cur c lm v' bra ket)⟩:=by
  subst ev
  exact Bv _ (Bx h (Ev.loc hs hl (by decide)) (by rfl) aH Zb cW hw) (by rfl)
theorem Ex.sBra (h:Ev d sc e st (.int v) ⟨loc,.some (x,dx,FF cur c lm lb bra ket)⟩) (hs:loc.lookup ("self" : Str)=some (.self x)) (hl:sc.names.lookup ("self" : Str)=some .local)
    (hw:∀ env:Env,swapsWith e (some (.Attribute (.Name "self" py) "bra" po)) p.line env=pure false) (ev:v=v') :
    Ex d sc (.Assign [.Attribute (.Name "self" py) "bra" po] e p) st .next ⟨loc,.some (x,dx,FF cur c lm lb v' ket)⟩:=by
  subst ev
  exact Bv _ (Bx h (Ev.loc hs hl (by decide)) (by rfl) f_bra Zb cW hw) (by rfl)
theorem Ex.sKet (h:Ev d sc e st (.int v) ⟨loc,.some (x,dx,FF cur c lm lb bra ket)⟩) (hs:loc.lookup ("self" : Str)=some (.self x)) (hl:sc.names.lookup ("self" : Str)=some .local)
    (hw:∀ env:Env,swapsWith e (some (.Attribute (.Name "self" py) "ket" po)) p.line env=pure false) (ev:v=v') :
    Ex d sc (.Assign [.Attribute (.Name "self" py) "ket" po] e p) st .next ⟨loc,.some (x,dx,FF cur c lm lb bra v')⟩:=by
  subst ev
  exact Bv _ (Bx h (Ev.loc hs hl (by decide)) (by rfl) f_ket Zb cW hw) (by rfl)
theorem Ex.aCSub (h:Ev d sc e ⟨loc,.some (x,dx,FF cur c lm lb bra ket)⟩ (.int b) ⟨loc,.some (x,dx,FF cur c lm lb bra ket)⟩) (hs:loc.lookup ("self" : Str)=some (.self x)) (hl:sc.names.lookup ("self" : Str)=some .local)
    (ev:c - b=v') :
    Ex d sc (.AugAssign (.Attribute (.Name "self" py) "cursor" po) .Sub e p) ⟨loc,.some (x,dx,FF cur c lm lb bra ket)⟩ .next ⟨loc,.some (x,dx,FF cur v' lm lb bra ket)⟩:=by
  subst ev
  exact Bv _ (Ck (Ev.loc hs hl (by decide)) (by rfl) aJ (by rfl) h (by rfl) Zb) (by rfl)
theorem Ex.aCAdd (h:Ev d sc e ⟨loc,.some (x,dx,FF cur c lm lb bra ket)⟩ (.int b) ⟨loc,.some (x,dx,FF cur c lm lb bra ket)⟩) (hs:loc.lookup ("self" : Str)=some (.self x)) (hl:sc.names.lookup ("self" : Str)=some .local)
    (ev:c+b=v') :
    Ex d sc (.AugAssign (.Attribute (.Name "self" py) "cursor" po) .Add e p) ⟨loc,.some (x,dx,FF cur c lm lb bra ket)⟩ .next ⟨loc,.some (x,dx,FF cur v' lm lb bra ket)⟩:=by
  subst ev
  exact Bv _ (Ex.augFAdd (Ev.loc hs hl (by decide)) (by rfl) aJ (by rfl) h (by rfl) Zb) (by rfl)
theorem Ex.setI {y:Str} {f:Mu} (h:Ev d sc e st (.int v) ⟨loc,f⟩) (hl:sc.names.lookup y=some .local) (hw:∀ env:Env,swapsWith e (some (.Name y px)) p.line env=pure false) (ev:v=v') (hloc:putF y (.int v') loc=loc') :
    Ex d sc (.Assign [.Name y px] e p) st .next ⟨loc',f⟩:=by
  subst ev
  subst hloc
  exact Am h hl hw
theorem Ex.setV {y:Str} {f:Mu} {v:SV} (h:Ev d sc e st v ⟨loc,f⟩) (hl:sc.names.lookup y=some .local) (hw:∀ env:Env,swapsWith e (some (.Name y px)) p.line env=pure false) (hloc:putF y v loc=loc') :
    Ex d sc (.Assign [.Name y px] e p) st .next ⟨loc',f⟩:=by
  subst hloc
  exact Am h hl hw
noncomputable def Is (ch:Nat) (cur:T) (n:Nat):Prop:=0 < n∧cur[n - 1]?=some ch
noncomputable def Isnt (ch:Nat) (cur:T) (n:Nat):Prop:=n=0∨∃ b,0 < n∧cur[n - 1]?=some b∧b≠ch
theorem is_or (ch:Nat) (cur:T) (n:Nat) (h:n≤cur.length):Is ch cur n∨Isnt ch cur n:=by
  by_cases h0:n=0
  · exact .inr (.inl h0)
  · have h1:n - 1 < cur.length:=by lia
    by_cases hc:cur[n - 1]=ch
    · exact .inl ⟨by lia,by rw [List.getElem?_eq_getElem h1,hc]⟩
    · exact .inr (.inr ⟨cur[n - 1],by lia,List.getElem?_eq_getElem h1,hc⟩)
end
section
variable {d:Nat} {sc:Scope} {loc:Loc} {x dx:Addr} {cur:T} {n ch:Nat} {lm bra ket:Int} {k:Nat} {p1 p2 p3 p4 p5 p6 p7 p8 p9 p10 p11 p12 p13 p14 p15:Pos} {k1 k2:Nat} {z:Str}
theorem Tst.is_f (h:Is ch cur n) (hs:loc.lookup ("self" : Str)=some (.self x)) (hl:sc.names.lookup ("self" : Str)=some .local) (hz:z=S [ch]) :
    Tst d sc (.BoolOp .Or [.Compare (.Attribute (.Name "self" p1) "cursor" p2) [.LtE] [.Attribute (.Name "self" p3) "limit_backward" p4] p5,
      .Compare (.Subscript (.Attribute (.Name "self" p6) "current" p7) (.BinOp (.Attribute (.Name "self" p8) "cursor" p9) .Sub (.Constant (.int 1) k1 p10) p11) p12) [.NotEq] [.Constant (.str z) k2 p13] p14] p15) ⟨loc,.some (x,dx,FF cur n lm 0 bra ket)⟩ false ⟨loc,.some (x,dx,FF cur n lm 0 bra ket)⟩:=by
  have h2:=eS h.1 h.2
  have h0:=h.1
  exact Bo (Ac (Ev.gC hs hl) (Ev.gB hs hl) (dF (by lia))) (Bo (Ac (Bu (Ev.gCur hs hl) (Ag (Ev.gC hs hl) Ae) (by lia) h2) (Ar (x:=[ch]) hz (by show 1≤65536; decide)) (gR rfl)) Ci)
theorem Tst.is_t (h:Isnt ch cur n) (hs:loc.lookup ("self" : Str)=some (.self x)) (hl:sc.names.lookup ("self" : Str)=some .local) (hz:z=S [ch]) :
    Tst d sc (.BoolOp .Or [.Compare (.Attribute (.Name "self" p1) "cursor" p2) [.LtE] [.Attribute (.Name "self" p3) "limit_backward" p4] p5,
      .Compare (.Subscript (.Attribute (.Name "self" p6) "current" p7) (.BinOp (.Attribute (.Name "self" p8) "cursor" p9) .Sub (.Constant (.int 1) k1 p10) p11) p12) [.NotEq] [.Constant (.str z) k2 p13] p14] p15) ⟨loc,.some (x,dx,FF cur n lm 0 bra ket)⟩ true ⟨loc,.some (x,dx,FF cur n lm 0 bra ket)⟩:=by
  rcases h with h | ⟨b,h0,h1,h3⟩
  · exact Tst.or_t (Ac (Ev.gC hs hl) (Ev.gB hs hl) (cS (by lia)))
  · have h2:=eS h0 h1
    exact Bo (Ac (Ev.gC hs hl) (Ev.gB hs hl) (dF (by lia))) (Tst.or_t (Ac (Bu (Ev.gCur hs hl) (Ag (Ev.gC hs hl) Ae) (by lia) h2) (Ar (x:=[ch]) hz (by show 1≤65536; decide)) (jG (lW h3))))
theorem Ex.at {d:Nat} {sc:Scope} {t u:Stmt} {st st':Sx} {fl:Fl} (e:t=u) (h:Ex d sc u st fl st'):Ex d sc t st fl st':=e▸h
theorem Tst.not_t {d:Nat} {sc:Scope} {e:Expr} {p:Pos} {st st':Sx} (h:Tst d sc e st false st'):Tst d sc (.UnaryOp .Not e p) st true st':=Tst.not h
theorem Tst.not_f {d:Nat} {sc:Scope} {e:Expr} {p:Pos} {st st':Sx} (h:Tst d sc e st true st'):Tst d sc (.UnaryOp .Not e p) st false st':=Tst.not h
noncomputable def FAB (t:List (T×Int×Int)) (cur:T) (c:Nat) (q:Int) (c':Nat):Prop:=∀ {d:Nat} {x dx:Addr} {lm bra ket:Int},
  CallOK (d+1) 140 [.self x,.tab t] (.some (x,dx,FF cur c lm 0 bra ket)) (.int q) (.some (x,dx,FF cur c' lm 0 bra ket))
theorem lV {ch:Nat} {cur:T} {n c:Nat} (h:Opt ch cur n c):(Is ch cur n∧c=n - 1)∨(Isnt ch cur n∧c=n):=by
  rcases h with ⟨h0,h1,h2⟩ | ⟨h1,h2⟩
  · exact .inl ⟨⟨h0,h1⟩,h2⟩
  · exact .inr ⟨h1,h2⟩
theorem bnd_is {cur:T} {c c':Nat} (h:Bnd cur c c'):(c=0∧c'=0)∨(Is 45 cur c∧c'=c - 1):=by
  rcases h with h | ⟨h0,h1,h2⟩
  · exact .inl h
  · exact .inr ⟨⟨h0,h1⟩,h2⟩
theorem nobnd_is {cur:T} {c:Nat} (h:NoBnd cur c):0 < c∧Isnt 45 cur c:=by
  obtain ⟨b,h0,h1,h2⟩:=h
  exact ⟨h0,.inr ⟨b,h0,h1,h2⟩⟩
theorem del_end {d:Nat} {x dx:Addr} {cur:T} {c c1:Nat} (hcl:cur.length≤60000) (hle:c1≤cur.length):CallOK (d+3) 161 [.self x] (.some (x,dx,FF cur c cur.length 0 c1 cur.length)) .none
    (.some (x,dx,FF (cur.take c1) (rcc c c1 cur.length []) (cur.take c1).length 0 c1 (c1+(([]:T).length:Int)))):=by
  have hr:=rcur_end (y:=[]) hle
  rw [List.append_nil] at hr
  have g1:(0:Int)≤(c1:Int)∧(c1:Int)≤(cur.length:Int)∧(cur.length:Int)≤(cur.length:Int)∧(cur.length:Int)=cur.length:=by lia
  have hlim:lim=65536:=rfl
  have g2:(sl cur 0 c1++([]:T)).length≤lim:=by rw [sl0 hle,List.append_nil,List.length_take]; lia
  have g3:(sl cur 0 c1++([]:T)++sl cur cur.length cur.length).length≤lim:=by rw [sl0 hle,List.append_nil,slEnd,List.append_nil,List.length_take]; lia
  have e:(cur.length:Int)+((([]:T).length:Int) - ((cur.length:Int) - c1))=((cur.take c1).length:Int):=by rw [List.length_take]; simp; lia
  have h:=sldel (d:=d) (x:=x) (dx:=dx) (c:=c) (lb:=0) g1 g2 g3
  rw [e,hr] at h
  exact h
theorem mJ {d:Nat} {x dx:Addr} {cur y:T} {c c1:Nat} (hcl:cur.length≤60000) (hle:c1≤cur.length) (hy:y.length≤100):CallOK (d+2) 154 [.self x,.str y] (.some (x,dx,FF cur c cur.length 0 c1 cur.length)) .none
    (.some (x,dx,FF (cur.take c1++y) (rcc c c1 cur.length y) (cur.take c1++y).length 0 c1 (c1+(y.length:Int)))):=by
  have hr:=rcur_end (y:=y) hle
  have g1:(0:Int)≤(c1:Int)∧(c1:Int)≤(cur.length:Int)∧(cur.length:Int)≤(cur.length:Int)∧(cur.length:Int)=cur.length:=by lia
  have hlim:lim=65536:=rfl
  have g2:(sl cur 0 c1++y).length≤lim:=by rw [sl0 hle,List.length_append,List.length_take]; lia
  have g3:(sl cur 0 c1++y++sl cur cur.length cur.length).length≤lim:=by rw [sl0 hle,slEnd,List.append_nil,List.length_append,List.length_take]; lia
  have e:(cur.length:Int)+((y.length:Int) - ((cur.length:Int) - c1))=((cur.take c1++y).length:Int):=by rw [List.length_append,List.length_take]; lia
  have h:=slfrom (d:=d) (x:=x) (dx:=dx) (c:=c) (lb:=0) g1 g2 g3
  rw [e,hr] at h
  exact h
end
noncomputable abbrev Al:=@Ev.gC
noncomputable abbrev An:=@Ex.setI
noncomputable abbrev At:=@Ev.gL
noncomputable abbrev Ba:=@Ex.sC
noncomputable abbrev Bb:=@Ex.sBra
noncomputable abbrev Bc:=@Tst.not_t
noncomputable abbrev Bd:=@Ex.setV
noncomputable abbrev Bh:=@Tst.not_f
noncomputable abbrev Bl:=@Ex.sKet
noncomputable abbrev Bm:=@Tst.is_t
noncomputable abbrev Bn:=@Ex.aCSub
noncomputable abbrev Bs:=@Tst.is_f
noncomputable abbrev Bt:=@Ex.at
theorem dM:(aE (stC 6 5)).names.lookup ("EsperantoStemmer" : Str)=some NameKind.globalImplicit:=by kernel_rfl
theorem bI:(aE (stC 6 5)).names.lookup ("self" : Str)=some NameKind.local:=by kernel_rfl
theorem n6_5_v_1:(aE (stC 6 5)).names.lookup ("v_1" : Str)=some NameKind.local:=by kernel_rfl
theorem dK:(aE (stC 6 7)).names.lookup ("EsperantoStemmer" : Str)=some NameKind.globalImplicit:=by kernel_rfl
theorem bA:(aE (stC 6 7)).names.lookup ("self" : Str)=some NameKind.local:=by kernel_rfl
theorem n6_7_v_1:(aE (stC 6 7)).names.lookup ("v_1" : Str)=some NameKind.local:=by kernel_rfl
theorem n6_7_v_2:(aE (stC 6 7)).names.lookup ("v_2" : Str)=some NameKind.local:=by kernel_rfl
theorem dJ:(aE (stC 6 8)).names.lookup ("EsperantoStemmer" : Str)=some NameKind.globalImplicit:=by kernel_rfl
theorem mY:(aE (stC 6 8)).names.lookup ("self" : Str)=some NameKind.local:=by kernel_rfl
theorem bV:(aE (stC 6 9)).names.lookup ("EsperantoStemmer" : Str)=some NameKind.globalImplicit:=by kernel_rfl
theorem iL:(aE (stC 6 9)).names.lookup ("self" : Str)=some NameKind.local:=by kernel_rfl
theorem ujn_none {cur:T} {c1 c2 c3 c4 c5:Nat} {q q':Int} (hcl:cur.length≤60000) (ho1:Opt 110 cur cur.length c1) (ho2:Opt 106 cur c1 c2) (hf:FAB A4 cur c2 q c3) (hq:q=0):PR 266 cur false cur:=fun bra ket=>by
  refine ⟨c3,c2,cur.length,fun {d x dx}=>?_⟩
  refine' Au fR rfl (.inl rfl) (Aa (Bl (Al (by rfl) bA) (by rfl) bA Zn rfl) (Aa (An (v':=(cur.length - cur.length)) (loc':=[("self",.self x),("v_1",.int (cur.length - cur.length))]) (Ag (At (by rfl) bA) (Al (by rfl) bA)) n6_7_v_1 Zn (by first | rfl | lia) (by rfl)) (Aa (Bt (by kernel_rfl) (ujn_n ho1)) (Aa (An (v':=(cur.length - c1)) (loc':=[("self",.self x),("v_1",.int (cur.length - cur.length)),("v_2",.int (cur.length - c1))]) (Ag (At (by rfl) bA) (Al (by rfl) bA)) n6_7_v_2 Zn (by first | rfl | lia) (by rfl)) (Aa (Bt (by kernel_rfl) (ujn_j ho2)) (Aa (Bb (Al (by rfl) bA) (by rfl) bA Zn rfl) (Ab (Ak (Ac (Av (Zm bA) (by rfl) (by rfl) aS (Ah (Ev.a4 dK) Aq) hf (fun _=>⟨_,rfl⟩)) Ae (bY (by lia))) (Ab (Ax Ap) (by simp))) (by simp)))))))) ?_
  rfl
theorem ujn_no {cur:T} {c1 c2 c3 c4 c5:Nat} {q q':Int} (hcl:cur.length≤60000) (ho1:Opt 110 cur cur.length c1) (ho2:Opt 106 cur c1 c2) (hf:FAB A4 cur c2 q c3) (hq:q≠0) (hb:NoBnd cur c3):PR 266 cur false cur:=fun bra ket=>by
  obtain ⟨b,h0,h1,h3⟩:=hb
  refine ⟨c3,c2,cur.length,fun {d x dx}=>?_⟩
  refine' Au fR rfl (.inl rfl) (Aa (Bl (Al (by rfl) bA) (by rfl) bA Zn rfl) (Aa (An (v':=(cur.length - cur.length)) (loc':=[("self",.self x),("v_1",.int (cur.length - cur.length))]) (Ag (At (by rfl) bA) (Al (by rfl) bA)) n6_7_v_1 Zn (by first | rfl | lia) (by rfl)) (Aa (Bt (by kernel_rfl) (ujn_n ho1)) (Aa (An (v':=(cur.length - c1)) (loc':=[("self",.self x),("v_1",.int (cur.length - cur.length)),("v_2",.int (cur.length - c1))]) (Ag (At (by rfl) bA) (Al (by rfl) bA)) n6_7_v_2 Zn (by first | rfl | lia) (by rfl)) (Aa (Bt (by kernel_rfl) (ujn_j ho2)) (Aa (Bb (Al (by rfl) bA) (by rfl) bA Zn rfl) (Aa (Af (Ac (Av (Zm bA) (by rfl) (by rfl) aS (Ah (Ev.a4 dK) Aq) hf (fun _=>⟨_,rfl⟩)) Ae (aI (by lia))) Ad) (Ab (Bt (by kernel_rfl) (ujn_hs_no h0 h1 h3)) (by simp))))))))) ?_
  rfl
theorem ujn_yes {cur:T} {c1 c2 c3 c4 c5:Nat} {q q':Int} (hcl:cur.length≤60000) (ho1:Opt 110 cur cur.length c1) (ho2:Opt 106 cur c1 c2) (hf:FAB A4 cur c2 q c3) (hq:q≠0) (hb:Bnd cur c3 c4):PR 266 cur true (cur.take c2):=fun bra ket=>by
  have hle:c2≤cur.length:=Nat.le_trans ho2.le ho1.le
  refine ⟨rcc c4 c2 cur.length [],c2,c2+(([]:T).length:Int),fun {d x dx}=>?_⟩
  refine' Au fR rfl (.inl rfl) (Aa (Bl (Al (by rfl) bA) (by rfl) bA Zn rfl) (Aa (An (v':=(cur.length - cur.length)) (loc':=[("self",.self x),("v_1",.int (cur.length - cur.length))]) (Ag (At (by rfl) bA) (Al (by rfl) bA)) n6_7_v_1 Zn (by first | rfl | lia) (by rfl)) (Aa (Bt (by kernel_rfl) (ujn_n ho1)) (Aa (An (v':=(cur.length - c1)) (loc':=[("self",.self x),("v_1",.int (cur.length - cur.length)),("v_2",.int (cur.length - c1))]) (Ag (At (by rfl) bA) (Al (by rfl) bA)) n6_7_v_2 Zn (by first | rfl | lia) (by rfl)) (Aa (Bt (by kernel_rfl) (ujn_j ho2)) (Aa (Bb (Al (by rfl) bA) (by rfl) bA Zn rfl) (Aa (Af (Ac (Av (Zm bA) (by rfl) (by rfl) aS (Ah (Ev.a4 dK) Aq) hf (fun _=>⟨_,rfl⟩)) Ae (aI (by lia))) Ad) (Aa (Bt (by kernel_rfl) (ujn_hs_ok hb)) (Aa (Bg (Aw (Zm bA) (by rfl) (by rfl) hG (del_end hcl hle) (fun _=>⟨_,rfl⟩)) (by rfl) Zn) (Ab (Ax Ap) (by simp))))))))))) ?_
  rfl
theorem unin_none {cur:T} {c1 c2 c3 c4 c5:Nat} {q q':Int} (hcl:cur.length≤60000) (hf:FAB A5 cur cur.length q c1) (hq:q=0):PR 273 cur false cur:=fun bra ket=>by
  refine ⟨c1,bra,ket,fun {d x dx}=>?_⟩
  refine' Au fE rfl (.inl rfl) (Ab (Ak (Ac (Av (Zm mY) (by rfl) (by rfl) aS (Ah (Ev.a5 dJ) Aq) hf (fun _=>⟨_,rfl⟩)) Ae (bY (by lia))) (Ab (Ax Ap) (by simp))) (by simp)) ?_
  rfl
theorem unin_no {cur:T} {c1 c2 c3 c4 c5:Nat} {q q':Int} (hcl:cur.length≤60000) (hf:FAB A5 cur cur.length q c1) (hq:q≠0) (hb:NoBnd cur c1):PR 273 cur false cur:=fun bra ket=>by
  obtain ⟨b,h0,h1,h3⟩:=hb
  refine ⟨c1,bra,ket,fun {d x dx}=>?_⟩
  refine' Au fE rfl (.inl rfl) (Aa (Af (Ac (Av (Zm mY) (by rfl) (by rfl) aS (Ah (Ev.a5 dJ) Aq) hf (fun _=>⟨_,rfl⟩)) Ae (aI (by lia))) Ad) (Ab (Bt (by kernel_rfl) (unin_hs_no h0 h1 h3)) (by simp))) ?_
  rfl
theorem unin_yes {cur:T} {c1 c2 c3 c4 c5:Nat} {q q':Int} (hcl:cur.length≤60000) (hf:FAB A5 cur cur.length q c1) (hq:q≠0) (hb:Bnd cur c1 c2):PR 273 cur true cur:=fun bra ket=>by
  refine ⟨c2,bra,ket,fun {d x dx}=>?_⟩
  refine' Au fE rfl (.inl rfl) (Aa (Af (Ac (Av (Zm mY) (by rfl) (by rfl) aS (Ah (Ev.a5 dJ) Aq) hf (fun _=>⟨_,rfl⟩)) Ae (aI (by lia))) Ad) (Aa (Bt (by kernel_rfl) (unin_hs_ok hb)) (Ab (Ax Ap) (by simp)))) ?_
  rfl
theorem mnum_none {cur:T} {c1 c2 c3 c4 c5:Nat} {q q':Int} (hcl:cur.length≤60000) (hf:FAB A6 cur cur.length q c1) (hq:q=0):PR 280 cur false cur:=fun bra ket=>by
  refine ⟨c1,bra,ket,fun {d x dx}=>?_⟩
  refine' Au eI rfl (.inl rfl) (Ab (Ak (Ac (Av (Zm iL) (by rfl) (by rfl) aS (Ah (Ev.a6 bV) Aq) hf (fun _=>⟨_,rfl⟩)) Ae (bY (by lia))) (Ab (Ax Ap) (by simp))) (by simp)) ?_
  rfl
theorem mnum_no {cur:T} {c1 c2 c3 c4 c5:Nat} {q q':Int} (hcl:cur.length≤60000) (hf:FAB A6 cur cur.length q c1) (hf2:FAB A7 cur c1 q' c2) (hq:q≠0) (hq':q'=0):PR 280 cur false cur:=fun bra ket=>by
  refine ⟨c2,bra,ket,fun {d x dx}=>?_⟩
  refine' Au eI rfl (.inl rfl) (Aa (Af (Ac (Av (Zm iL) (by rfl) (by rfl) aS (Ah (Ev.a6 bV) Aq) hf (fun _=>⟨_,rfl⟩)) Ae (aI (by lia))) Ad) (Ab (Ax (Ev.cmp (Av (Zm iL) (by rfl) (by rfl) aS (Ah (Ev.a7 bV) Aq) hf2 (fun _=>⟨_,rfl⟩)) Ae (i_ne_f (by lia)))) (by simp))) ?_
  rfl
theorem mnum_yes {cur:T} {c1 c2 c3 c4 c5:Nat} {q q':Int} (hcl:cur.length≤60000) (hf:FAB A6 cur cur.length q c1) (hf2:FAB A7 cur c1 q' c2) (hq:q≠0) (hq':q'≠0):PR 280 cur true cur:=fun bra ket=>by
  refine ⟨c2,bra,ket,fun {d x dx}=>?_⟩
  refine' Au eI rfl (.inl rfl) (Aa (Af (Ac (Av (Zm iL) (by rfl) (by rfl) aS (Ah (Ev.a6 bV) Aq) hf (fun _=>⟨_,rfl⟩)) Ae (aI (by lia))) Ad) (Ab (Ax (Ev.cmp (Av (Zm iL) (by rfl) (by rfl) aS (Ah (Ev.a7 bV) Aq) hf2 (fun _=>⟨_,rfl⟩)) Ae (i_ne_t (by lia)))) (by simp))) ?_
  rfl
theorem pron2_none {cur:T} {c1 c2 c3 c4 c5:Nat} {q q':Int} (hcl:cur.length≤60000) (ho1:Opt 110 cur cur.length c1) (hf:FAB A2 cur c1 q c3) (hq:q=0):PR 252 cur false cur:=fun bra ket=>by
  refine ⟨c3,c1,cur.length,fun {d x dx}=>?_⟩
  refine' Au iW rfl (.inl rfl) (Aa (Bl (Al (by rfl) bI) (by rfl) bI Zn rfl) (Aa (An (v':=(cur.length - cur.length)) (loc':=[("self",.self x),("v_1",.int (cur.length - cur.length))]) (Ag (At (by rfl) bI) (Al (by rfl) bI)) n6_5_v_1 Zn (by first | rfl | lia) (by rfl)) (Aa (Bt (by kernel_rfl) (pron_n ho1)) (Aa (Bb (Al (by rfl) bI) (by rfl) bI Zn rfl) (Ab (Ak (Ac (Av (Zm bI) (by rfl) (by rfl) aS (Ah (Ev.a2 dM) Aq) hf (fun _=>⟨_,rfl⟩)) Ae (bY (by lia))) (Ab (Ax Ap) (by simp))) (by simp)))))) ?_
  rfl
theorem pron2_no {cur:T} {c1 c2 c3 c4 c5:Nat} {q q':Int} (hcl:cur.length≤60000) (ho1:Opt 110 cur cur.length c1) (hf:FAB A2 cur c1 q c3) (hq:q≠0) (hb:NoBnd cur c3):PR 252 cur false cur:=fun bra ket=>by
  obtain ⟨b,h0,h1,h3⟩:=hb
  refine ⟨c3,c1,cur.length,fun {d x dx}=>?_⟩
  refine' Au iW rfl (.inl rfl) (Aa (Bl (Al (by rfl) bI) (by rfl) bI Zn rfl) (Aa (An (v':=(cur.length - cur.length)) (loc':=[("self",.self x),("v_1",.int (cur.length - cur.length))]) (Ag (At (by rfl) bI) (Al (by rfl) bI)) n6_5_v_1 Zn (by first | rfl | lia) (by rfl)) (Aa (Bt (by kernel_rfl) (pron_n ho1)) (Aa (Bb (Al (by rfl) bI) (by rfl) bI Zn rfl) (Aa (Af (Ac (Av (Zm bI) (by rfl) (by rfl) aS (Ah (Ev.a2 dM) Aq) hf (fun _=>⟨_,rfl⟩)) Ae (aI (by lia))) Ad) (Ab (Bt (by kernel_rfl) (pron_hs_no h0 h1 h3)) (by simp))))))) ?_
  rfl
theorem pron2_yes {cur:T} {c1 c2 c3 c4 c5:Nat} {q q':Int} (hcl:cur.length≤60000) (ho1:Opt 110 cur cur.length c1) (hf:FAB A2 cur c1 q c3) (hq:q≠0) (hb:Bnd cur c3 c4):PR 252 cur true (cur.take c1):=fun bra ket=>by
  have hle:c1≤cur.length:=ho1.le
  refine ⟨rcc c4 c1 cur.length [],c1,c1+(([]:T).length:Int),fun {d x dx}=>?_⟩
  refine' Au iW rfl (.inl rfl) (Aa (Bl (Al (by rfl) bI) (by rfl) bI Zn rfl) (Aa (An (v':=(cur.length - cur.length)) (loc':=[("self",.self x),("v_1",.int (cur.length - cur.length))]) (Ag (At (by rfl) bI) (Al (by rfl) bI)) n6_5_v_1 Zn (by first | rfl | lia) (by rfl)) (Aa (Bt (by kernel_rfl) (pron_n ho1)) (Aa (Bb (Al (by rfl) bI) (by rfl) bI Zn rfl) (Aa (Af (Ac (Av (Zm bI) (by rfl) (by rfl) aS (Ah (Ev.a2 dM) Aq) hf (fun _=>⟨_,rfl⟩)) Ae (aI (by lia))) Ad) (Aa (Bt (by kernel_rfl) (pron_hs_ok hb)) (Aa (Bg (Aw (Zm bI) (by rfl) (by rfl) hG (del_end hcl hle) (fun _=>⟨_,rfl⟩)) (by rfl) Zn) (Ab (Ax Ap) (by simp))))))))) ?_
  rfl
theorem aW:(aE (stC 6 10)).names.lookup ("EsperantoStemmer" : Str)=some NameKind.globalImplicit:=by kernel_rfl
theorem aR:(aE (stC 6 10)).names.lookup ("lab0" : Str)=some NameKind.globalImplicit:=by kernel_rfl
theorem dA:(aE (stC 6 10)).names.lookup ("lab1" : Str)=some NameKind.globalImplicit:=by kernel_rfl
theorem aC:(aE (stC 6 10)).names.lookup ("self" : Str)=some NameKind.local:=by kernel_rfl
theorem iO:(aE (stC 6 10)).names.lookup ("v_1" : Str)=some NameKind.local:=by kernel_rfl
theorem bS:(aE (stC 6 10)).names.lookup ("v_2" : Str)=some NameKind.local:=by kernel_rfl
theorem cH:(aE (stC 6 10)).names.lookup ("v_3" : Str)=some NameKind.local:=by kernel_rfl
theorem cZ:(aE (stC 6 10)).names.lookup ("v_4" : Str)=some NameKind.local:=by kernel_rfl
theorem cY:(aE (stC 6 10)).names.lookup ("v_5" : Str)=some NameKind.local:=by kernel_rfl
theorem mZ:(aE (stC 6 10)).names.lookup ("v_6" : Str)=some NameKind.local:=by kernel_rfl
theorem Ex.postE {d:Nat} {sc:Scope} {t:Stmt} {st st₁:Sx} {fl:Fl} {f':Mu} (l:Loc) (h:Ex d sc t st fl st₁) (hl:Le l st₁.loc) (e:st₁.f=f'):Ex d sc t st fl ⟨l,f'⟩:=by
  subst e
  exact .mk fun c imm s O R hs I=>wpAny_mono (h.run c imm s O R hs I) (fun F s' q=>by
    cases fl with
    | next=>obtain ⟨h1,imm',x,I'⟩:=q; exact ⟨h1,imm',x,I'.weak hl⟩
    | brk=>obtain ⟨h1,imm',x,I'⟩:=q; exact ⟨h1,imm',x,I'.weak hl⟩
    | cont=>obtain ⟨h1,imm',x,I'⟩:=q; exact ⟨h1,imm',x,I'.weak hl⟩
    | ret v=>obtain ⟨V,h1,imm',x,I',q⟩:=q; exact ⟨V,h1,imm',x,I'.weak hl,q⟩
    | exc C=>exact q.elim) fun e s' q=>by
    cases fl with
    | exc C=>obtain ⟨imm',x,Fl⟩:=q; exact ⟨imm',x,Fl.weak hl⟩
    | _=>exact q.elim
noncomputable def IGS (l:T) (cur:T) (n:Nat) (b:Bool) (c:Nat):Prop:=∀ {d:Nat} {x dx:Addr} {lm bra ket:Int},
  CallOK (d+1) 77 [.self x,.str l] (.some (x,dx,FF cur n lm 0 bra ket)) (.bool b) (.some (x,dx,FF cur c lm 0 bra ket))
theorem igs_yes {l cur:T} {n ch:Nat} (h0:0 < n) (h:cur[n - 1]?=some ch) (hl:ch∈l):IGS l cur n true (n - 1):=fun {d x dx lm bra ket}=>by
  have h1:=igb_s_yes (d:=d) (x:=x) (dx:=dx) (c:=n) (lm:=lm) (lb:=0) (bra:=bra) (ket:=ket) (by lia) (by lia) (eS h0 h) (by simp [hl]:decide (ch ∉ l)=false)
  rw [show ((n:Int) - 1)=((n - 1:Nat):Int) by lia] at h1
  exact h1
theorem igs_no {l cur:T} {n:Nat} (h:n=0∨∃ ch,0 < n∧cur[n - 1]?=some ch∧ch ∉ l):IGS l cur n false n:=fun {d x dx lm bra ket}=>by
  rcases h with h | ⟨ch,h0,h,hl⟩
  · exact igb_s_lo (by lia)
  · exact igb_s_no (by lia) (by lia) (eS h0 h) (by simp [hl])
noncomputable def CW (cur:T) (fl:Fl) (b c:Nat):Prop:=∀ {d:Nat} {x dx:Addr},
  Ex (d+1) (aE (stC 6 10)) (nthS (aG (stC 6 10)) 3) ⟨[("self",.self x),("v_1",.int (cur.length - cur.length))],.some (x,dx,FF cur cur.length cur.length 0 cur.length cur.length)⟩ fl ⟨[("self",.self x),("v_1",.int (cur.length - cur.length))],.some (x,dx,FF cur c cur.length 0 b cur.length)⟩
theorem cw_e {cur:T} {c1 c2 c3:Nat} (h:Opt 110 cur cur.length c1) (he:Is 101 cur c1):CW cur .next c1 (c1 - 1):=fun {d x dx}=>by
  have h4:=he.1
  rcases lV h with ⟨h1,hc⟩ | ⟨h1,hc⟩
  · have h0:=h1.1
    refine' Ex.postE _ (Az (Bi (Ai Ap Zn) (Aa (An (v':=(cur.length - cur.length)) (loc':=[("self",.self x),("v_1",.int (cur.length - cur.length)),("v_2",.int (cur.length - cur.length))]) (Ag (At (by rfl) aC) (Al (by rfl) aC)) bS Zn (by first | rfl | lia) (by rfl)) (Ab (Ay (Aa (An (v':=(cur.length - cur.length)) (loc':=[("self",.self x),("v_1",.int (cur.length - cur.length)),("v_2",.int (cur.length - cur.length)),("v_3",.int (cur.length - cur.length))]) (Ag (At (by rfl) aC) (Al (by rfl) aC)) cH Zn (by first | rfl | lia) (by rfl)) (Aa (Ay (Aa (Af (Bs h1 (by rfl) aC rfl) Ad) (Aa (Bn (v':=c1) Ae (by rfl) aC (by lia)) Ad)) (by simp)) (Aa (Bb (Al (by rfl) aC) (by rfl) aC Zn rfl) (Aa (Af (Bs he (by rfl) aC rfl) Ad) (Aa (Bn (v':=(c1 - 1:Nat)) Ae (by rfl) aC (by lia)) (Ab Bq (by simp))))))) (by simp)) (by simp))))) (aD rfl (aD rfl aP)) rfl
  ·
    refine' Ex.postE _ (Az (Bi (Ai Ap Zn) (Aa (An (v':=(cur.length - cur.length)) (loc':=[("self",.self x),("v_1",.int (cur.length - cur.length)),("v_2",.int (cur.length - cur.length))]) (Ag (At (by rfl) aC) (Al (by rfl) aC)) bS Zn (by first | rfl | lia) (by rfl)) (Ab (Ay (Aa (An (v':=(cur.length - cur.length)) (loc':=[("self",.self x),("v_1",.int (cur.length - cur.length)),("v_2",.int (cur.length - cur.length)),("v_3",.int (cur.length - cur.length))]) (Ag (At (by rfl) aC) (Al (by rfl) aC)) cH Zn (by first | rfl | lia) (by rfl)) (Aa (Ex.try_lab1 (Ab (Ak (Bm h1 (by rfl) aC rfl) (Aa (Ba (v':=c1) (Ag (At (by rfl) aC) (Zm cH)) (by rfl) aC Zn (by lia)) (Ab (Cg dA) (by simp)))) (by simp)) dA) (Aa (Bb (Al (by rfl) aC) (by rfl) aC Zn rfl) (Aa (Af (Bs he (by rfl) aC rfl) Ad) (Aa (Bn (v':=(c1 - 1:Nat)) Ae (by rfl) aC (by lia)) (Ab Bq (by simp))))))) (by simp)) (by simp))))) (aD rfl (aD rfl aP)) rfl
theorem cw_v {cur:T} {c1 c2 c3:Nat} (h:Opt 110 cur cur.length c1) (he:Isnt 101 cur c1) (hj:Opt 106 cur c1 c2) (hg:IGS [97,111,117] cur c2 true c3):CW cur .next c2 c3:=fun {d x dx}=>by
  rcases lV h with ⟨h1,hc⟩ | ⟨h1,hc⟩
  · have h0:=h1.1
    rcases lV hj with ⟨h2,hc2⟩ | ⟨h2,hc2⟩
    · have h5:=h2.1
      refine' Ex.postE _ (Az (Bi (Ai Ap Zn) (Aa (An (v':=(cur.length - cur.length)) (loc':=[("self",.self x),("v_1",.int (cur.length - cur.length)),("v_2",.int (cur.length - cur.length))]) (Ag (At (by rfl) aC) (Al (by rfl) aC)) bS Zn (by first | rfl | lia) (by rfl)) (Aa (As (Aa (An (v':=(cur.length - cur.length)) (loc':=[("self",.self x),("v_1",.int (cur.length - cur.length)),("v_2",.int (cur.length - cur.length)),("v_3",.int (cur.length - cur.length))]) (Ag (At (by rfl) aC) (Al (by rfl) aC)) cH Zn (by first | rfl | lia) (by rfl)) (Aa (Ay (Aa (Af (Bs h1 (by rfl) aC rfl) Ad) (Aa (Bn (v':=c1) Ae (by rfl) aC (by lia)) Ad)) (by simp)) (Aa (Bb (Al (by rfl) aC) (by rfl) aC Zn rfl) (Ab (Ak (Bm he (by rfl) aC rfl) (Ab (Ao aR) (by simp))) (by simp))))) aR) (Aa (Ba (v':=cur.length) (Ag (At (by rfl) aC) (Zm bS)) (by rfl) aC Zn (by lia)) (Aa (An (v':=(cur.length - cur.length)) (loc':=[("self",.self x),("v_1",.int (cur.length - cur.length)),("v_2",.int (cur.length - cur.length)),("v_3",.int (cur.length - cur.length)),("v_4",.int (cur.length - cur.length))]) (Ag (At (by rfl) aC) (Al (by rfl) aC)) cZ Zn (by first | rfl | lia) (by rfl)) (Aa (Ay (Aa (Af (Bs h1 (by rfl) aC rfl) Ad) (Aa (Bn (v':=c1) Ae (by rfl) aC (by lia)) Ad)) (by simp)) (Aa (An (v':=(cur.length - c1)) (loc':=[("self",.self x),("v_1",.int (cur.length - cur.length)),("v_2",.int (cur.length - cur.length)),("v_3",.int (cur.length - cur.length)),("v_4",.int (cur.length - cur.length)),("v_5",.int (cur.length - c1))]) (Ag (At (by rfl) aC) (Al (by rfl) aC)) cY Zn (by first | rfl | lia) (by rfl)) (Aa (Ay (Aa (Af (Bs h2 (by rfl) aC rfl) Ad) (Aa (Bn (v':=c2) Ae (by rfl) aC (by lia)) Ad)) (by simp)) (Aa (Bb (Al (by rfl) aC) (by rfl) aC Zn rfl) (Aa (Af (Bh (Ai (Av (Zm aC) (by rfl) (by rfl) bM (Ah (Ev.gaou aW) Aq) hg (fun _=>⟨_,rfl⟩)) Zn)) Ad) (Ab Bq (by simp))))))))))))) (aD rfl (aD rfl aP)) rfl
    ·
      refine' Ex.postE _ (Az (Bi (Ai Ap Zn) (Aa (An (v':=(cur.length - cur.length)) (loc':=[("self",.self x),("v_1",.int (cur.length - cur.length)),("v_2",.int (cur.length - cur.length))]) (Ag (At (by rfl) aC) (Al (by rfl) aC)) bS Zn (by first | rfl | lia) (by rfl)) (Aa (As (Aa (An (v':=(cur.length - cur.length)) (loc':=[("self",.self x),("v_1",.int (cur.length - cur.length)),("v_2",.int (cur.length - cur.length)),("v_3",.int (cur.length - cur.length))]) (Ag (At (by rfl) aC) (Al (by rfl) aC)) cH Zn (by first | rfl | lia) (by rfl)) (Aa (Ay (Aa (Af (Bs h1 (by rfl) aC rfl) Ad) (Aa (Bn (v':=c1) Ae (by rfl) aC (by lia)) Ad)) (by simp)) (Aa (Bb (Al (by rfl) aC) (by rfl) aC Zn rfl) (Ab (Ak (Bm he (by rfl) aC rfl) (Ab (Ao aR) (by simp))) (by simp))))) aR) (Aa (Ba (v':=cur.length) (Ag (At (by rfl) aC) (Zm bS)) (by rfl) aC Zn (by lia)) (Aa (An (v':=(cur.length - cur.length)) (loc':=[("self",.self x),("v_1",.int (cur.length - cur.length)),("v_2",.int (cur.length - cur.length)),("v_3",.int (cur.length - cur.length)),("v_4",.int (cur.length - cur.length))]) (Ag (At (by rfl) aC) (Al (by rfl) aC)) cZ Zn (by first | rfl | lia) (by rfl)) (Aa (Ay (Aa (Af (Bs h1 (by rfl) aC rfl) Ad) (Aa (Bn (v':=c1) Ae (by rfl) aC (by lia)) Ad)) (by simp)) (Aa (An (v':=(cur.length - c1)) (loc':=[("self",.self x),("v_1",.int (cur.length - cur.length)),("v_2",.int (cur.length - cur.length)),("v_3",.int (cur.length - cur.length)),("v_4",.int (cur.length - cur.length)),("v_5",.int (cur.length - c1))]) (Ag (At (by rfl) aC) (Al (by rfl) aC)) cY Zn (by first | rfl | lia) (by rfl)) (Aa (As (Ab (Ak (Bm h2 (by rfl) aC rfl) (Aa (Ba (v':=c2) (Ag (At (by rfl) aC) (Zm cY)) (by rfl) aC Zn (by lia)) (Ab (Ao aR) (by simp)))) (by simp)) aR) (Aa (Bb (Al (by rfl) aC) (by rfl) aC Zn rfl) (Aa (Af (Bh (Ai (Av (Zm aC) (by rfl) (by rfl) bM (Ah (Ev.gaou aW) Aq) hg (fun _=>⟨_,rfl⟩)) Zn)) Ad) (Ab Bq (by simp))))))))))))) (aD rfl (aD rfl aP)) rfl
  ·
    rcases lV hj with ⟨h2,hc2⟩ | ⟨h2,hc2⟩
    · have h5:=h2.1
      refine' Ex.postE _ (Az (Bi (Ai Ap Zn) (Aa (An (v':=(cur.length - cur.length)) (loc':=[("self",.self x),("v_1",.int (cur.length - cur.length)),("v_2",.int (cur.length - cur.length))]) (Ag (At (by rfl) aC) (Al (by rfl) aC)) bS Zn (by first | rfl | lia) (by rfl)) (Aa (As (Aa (An (v':=(cur.length - cur.length)) (loc':=[("self",.self x),("v_1",.int (cur.length - cur.length)),("v_2",.int (cur.length - cur.length)),("v_3",.int (cur.length - cur.length))]) (Ag (At (by rfl) aC) (Al (by rfl) aC)) cH Zn (by first | rfl | lia) (by rfl)) (Aa (Ex.try_lab1 (Ab (Ak (Bm h1 (by rfl) aC rfl) (Aa (Ba (v':=c1) (Ag (At (by rfl) aC) (Zm cH)) (by rfl) aC Zn (by lia)) (Ab (Cg dA) (by simp)))) (by simp)) dA) (Aa (Bb (Al (by rfl) aC) (by rfl) aC Zn rfl) (Ab (Ak (Bm he (by rfl) aC rfl) (Ab (Ao aR) (by simp))) (by simp))))) aR) (Aa (Ba (v':=cur.length) (Ag (At (by rfl) aC) (Zm bS)) (by rfl) aC Zn (by lia)) (Aa (An (v':=(cur.length - cur.length)) (loc':=[("self",.self x),("v_1",.int (cur.length - cur.length)),("v_2",.int (cur.length - cur.length)),("v_3",.int (cur.length - cur.length)),("v_4",.int (cur.length - cur.length))]) (Ag (At (by rfl) aC) (Al (by rfl) aC)) cZ Zn (by first | rfl | lia) (by rfl)) (Aa (As (Ab (Ak (Bm h1 (by rfl) aC rfl) (Aa (Ba (v':=c1) (Ag (At (by rfl) aC) (Zm cZ)) (by rfl) aC Zn (by lia)) (Ab (Ao aR) (by simp)))) (by simp)) aR) (Aa (An (v':=(cur.length - c1)) (loc':=[("self",.self x),("v_1",.int (cur.length - cur.length)),("v_2",.int (cur.length - cur.length)),("v_3",.int (cur.length - cur.length)),("v_4",.int (cur.length - cur.length)),("v_5",.int (cur.length - c1))]) (Ag (At (by rfl) aC) (Al (by rfl) aC)) cY Zn (by first | rfl | lia) (by rfl)) (Aa (Ay (Aa (Af (Bs h2 (by rfl) aC rfl) Ad) (Aa (Bn (v':=c2) Ae (by rfl) aC (by lia)) Ad)) (by simp)) (Aa (Bb (Al (by rfl) aC) (by rfl) aC Zn rfl) (Aa (Af (Bh (Ai (Av (Zm aC) (by rfl) (by rfl) bM (Ah (Ev.gaou aW) Aq) hg (fun _=>⟨_,rfl⟩)) Zn)) Ad) (Ab Bq (by simp))))))))))))) (aD rfl (aD rfl aP)) rfl
    ·
      refine' Ex.postE _ (Az (Bi (Ai Ap Zn) (Aa (An (v':=(cur.length - cur.length)) (loc':=[("self",.self x),("v_1",.int (cur.length - cur.length)),("v_2",.int (cur.length - cur.length))]) (Ag (At (by rfl) aC) (Al (by rfl) aC)) bS Zn (by first | rfl | lia) (by rfl)) (Aa (As (Aa (An (v':=(cur.length - cur.length)) (loc':=[("self",.self x),("v_1",.int (cur.length - cur.length)),("v_2",.int (cur.length - cur.length)),("v_3",.int (cur.length - cur.length))]) (Ag (At (by rfl) aC) (Al (by rfl) aC)) cH Zn (by first | rfl | lia) (by rfl)) (Aa (Ex.try_lab1 (Ab (Ak (Bm h1 (by rfl) aC rfl) (Aa (Ba (v':=c1) (Ag (At (by rfl) aC) (Zm cH)) (by rfl) aC Zn (by lia)) (Ab (Cg dA) (by simp)))) (by simp)) dA) (Aa (Bb (Al (by rfl) aC) (by rfl) aC Zn rfl) (Ab (Ak (Bm he (by rfl) aC rfl) (Ab (Ao aR) (by simp))) (by simp))))) aR) (Aa (Ba (v':=cur.length) (Ag (At (by rfl) aC) (Zm bS)) (by rfl) aC Zn (by lia)) (Aa (An (v':=(cur.length - cur.length)) (loc':=[("self",.self x),("v_1",.int (cur.length - cur.length)),("v_2",.int (cur.length - cur.length)),("v_3",.int (cur.length - cur.length)),("v_4",.int (cur.length - cur.length))]) (Ag (At (by rfl) aC) (Al (by rfl) aC)) cZ Zn (by first | rfl | lia) (by rfl)) (Aa (As (Ab (Ak (Bm h1 (by rfl) aC rfl) (Aa (Ba (v':=c1) (Ag (At (by rfl) aC) (Zm cZ)) (by rfl) aC Zn (by lia)) (Ab (Ao aR) (by simp)))) (by simp)) aR) (Aa (An (v':=(cur.length - c1)) (loc':=[("self",.self x),("v_1",.int (cur.length - cur.length)),("v_2",.int (cur.length - cur.length)),("v_3",.int (cur.length - cur.length)),("v_4",.int (cur.length - cur.length)),("v_5",.int (cur.length - c1))]) (Ag (At (by rfl) aC) (Al (by rfl) aC)) cY Zn (by first | rfl | lia) (by rfl)) (Aa (As (Ab (Ak (Bm h2 (by rfl) aC rfl) (Aa (Ba (v':=c2) (Ag (At (by rfl) aC) (Zm cY)) (by rfl) aC Zn (by lia)) (Ab (Ao aR) (by simp)))) (by simp)) aR) (Aa (Bb (Al (by rfl) aC) (by rfl) aC Zn rfl) (Aa (Af (Bh (Ai (Av (Zm aC) (by rfl) (by rfl) bM (Ah (Ev.gaou aW) Aq) hg (fun _=>⟨_,rfl⟩)) Zn)) Ad) (Ab Bq (by simp))))))))))))) (aD rfl (aD rfl aP)) rfl
theorem cw_no {cur:T} {c1 c2 c3:Nat} (h:Opt 110 cur cur.length c1) (he:Isnt 101 cur c1) (hj:Opt 106 cur c1 c2) (hg:IGS [97,111,117] cur c2 false c3):CW cur (.ret (.bool false)) c2 c3:=fun {d x dx}=>by
  rcases lV h with ⟨h1,hc⟩ | ⟨h1,hc⟩
  · have h0:=h1.1
    rcases lV hj with ⟨h2,hc2⟩ | ⟨h2,hc2⟩
    · have h5:=h2.1
      refine' Ex.postE _ (Az (Whl.ret (Ai Ap Zn) (Aa (An (v':=(cur.length - cur.length)) (loc':=[("self",.self x),("v_1",.int (cur.length - cur.length)),("v_2",.int (cur.length - cur.length))]) (Ag (At (by rfl) aC) (Al (by rfl) aC)) bS Zn (by first | rfl | lia) (by rfl)) (Aa (As (Aa (An (v':=(cur.length - cur.length)) (loc':=[("self",.self x),("v_1",.int (cur.length - cur.length)),("v_2",.int (cur.length - cur.length)),("v_3",.int (cur.length - cur.length))]) (Ag (At (by rfl) aC) (Al (by rfl) aC)) cH Zn (by first | rfl | lia) (by rfl)) (Aa (Ay (Aa (Af (Bs h1 (by rfl) aC rfl) Ad) (Aa (Bn (v':=c1) Ae (by rfl) aC (by lia)) Ad)) (by simp)) (Aa (Bb (Al (by rfl) aC) (by rfl) aC Zn rfl) (Ab (Ak (Bm he (by rfl) aC rfl) (Ab (Ao aR) (by simp))) (by simp))))) aR) (Aa (Ba (v':=cur.length) (Ag (At (by rfl) aC) (Zm bS)) (by rfl) aC Zn (by lia)) (Aa (An (v':=(cur.length - cur.length)) (loc':=[("self",.self x),("v_1",.int (cur.length - cur.length)),("v_2",.int (cur.length - cur.length)),("v_3",.int (cur.length - cur.length)),("v_4",.int (cur.length - cur.length))]) (Ag (At (by rfl) aC) (Al (by rfl) aC)) cZ Zn (by first | rfl | lia) (by rfl)) (Aa (Ay (Aa (Af (Bs h1 (by rfl) aC rfl) Ad) (Aa (Bn (v':=c1) Ae (by rfl) aC (by lia)) Ad)) (by simp)) (Aa (An (v':=(cur.length - c1)) (loc':=[("self",.self x),("v_1",.int (cur.length - cur.length)),("v_2",.int (cur.length - cur.length)),("v_3",.int (cur.length - cur.length)),("v_4",.int (cur.length - cur.length)),("v_5",.int (cur.length - c1))]) (Ag (At (by rfl) aC) (Al (by rfl) aC)) cY Zn (by first | rfl | lia) (by rfl)) (Aa (Ay (Aa (Af (Bs h2 (by rfl) aC rfl) Ad) (Aa (Bn (v':=c2) Ae (by rfl) aC (by lia)) Ad)) (by simp)) (Aa (Bb (Al (by rfl) aC) (by rfl) aC Zn rfl) (Ab (Ak (Bc (Ai (Av (Zm aC) (by rfl) (by rfl) bM (Ah (Ev.gaou aW) Aq) hg (fun _=>⟨_,rfl⟩)) Zn)) (Ab (Ax Ap) (by simp))) (by simp)))))))))))) (aD rfl (aD rfl aP)) rfl
    ·
      refine' Ex.postE _ (Az (Whl.ret (Ai Ap Zn) (Aa (An (v':=(cur.length - cur.length)) (loc':=[("self",.self x),("v_1",.int (cur.length - cur.length)),("v_2",.int (cur.length - cur.length))]) (Ag (At (by rfl) aC) (Al (by rfl) aC)) bS Zn (by first | rfl | lia) (by rfl)) (Aa (As (Aa (An (v':=(cur.length - cur.length)) (loc':=[("self",.self x),("v_1",.int (cur.length - cur.length)),("v_2",.int (cur.length - cur.length)),("v_3",.int (cur.length - cur.length))]) (Ag (At (by rfl) aC) (Al (by rfl) aC)) cH Zn (by first | rfl | lia) (by rfl)) (Aa (Ay (Aa (Af (Bs h1 (by rfl) aC rfl) Ad) (Aa (Bn (v':=c1) Ae (by rfl) aC (by lia)) Ad)) (by simp)) (Aa (Bb (Al (by rfl) aC) (by rfl) aC Zn rfl) (Ab (Ak (Bm he (by rfl) aC rfl) (Ab (Ao aR) (by simp))) (by simp))))) aR) (Aa (Ba (v':=cur.length) (Ag (At (by rfl) aC) (Zm bS)) (by rfl) aC Zn (by lia)) (Aa (An (v':=(cur.length - cur.length)) (loc':=[("self",.self x),("v_1",.int (cur.length - cur.length)),("v_2",.int (cur.length - cur.length)),("v_3",.int (cur.length - cur.length)),("v_4",.int (cur.length - cur.length))]) (Ag (At (by rfl) aC) (Al (by rfl) aC)) cZ Zn (by first | rfl | lia) (by rfl)) (Aa (Ay (Aa (Af (Bs h1 (by rfl) aC rfl) Ad) (Aa (Bn (v':=c1) Ae (by rfl) aC (by lia)) Ad)) (by simp)) (Aa (An (v':=(cur.length - c1)) (loc':=[("self",.self x),("v_1",.int (cur.length - cur.length)),("v_2",.int (cur.length - cur.length)),("v_3",.int (cur.length - cur.length)),("v_4",.int (cur.length - cur.length)),("v_5",.int (cur.length - c1))]) (Ag (At (by rfl) aC) (Al (by rfl) aC)) cY Zn (by first | rfl | lia) (by rfl)) (Aa (As (Ab (Ak (Bm h2 (by rfl) aC rfl) (Aa (Ba (v':=c2) (Ag (At (by rfl) aC) (Zm cY)) (by rfl) aC Zn (by lia)) (Ab (Ao aR) (by simp)))) (by simp)) aR) (Aa (Bb (Al (by rfl) aC) (by rfl) aC Zn rfl) (Ab (Ak (Bc (Ai (Av (Zm aC) (by rfl) (by rfl) bM (Ah (Ev.gaou aW) Aq) hg (fun _=>⟨_,rfl⟩)) Zn)) (Ab (Ax Ap) (by simp))) (by simp)))))))))))) (aD rfl (aD rfl aP)) rfl
  ·
    rcases lV hj with ⟨h2,hc2⟩ | ⟨h2,hc2⟩
    · have h5:=h2.1
      refine' Ex.postE _ (Az (Whl.ret (Ai Ap Zn) (Aa (An (v':=(cur.length - cur.length)) (loc':=[("self",.self x),("v_1",.int (cur.length - cur.length)),("v_2",.int (cur.length - cur.length))]) (Ag (At (by rfl) aC) (Al (by rfl) aC)) bS Zn (by first | rfl | lia) (by rfl)) (Aa (As (Aa (An (v':=(cur.length - cur.length)) (loc':=[("self",.self x),("v_1",.int (cur.length - cur.length)),("v_2",.int (cur.length - cur.length)),("v_3",.int (cur.length - cur.length))]) (Ag (At (by rfl) aC) (Al (by rfl) aC)) cH Zn (by first | rfl | lia) (by rfl)) (Aa (Ex.try_lab1 (Ab (Ak (Bm h1 (by rfl) aC rfl) (Aa (Ba (v':=c1) (Ag (At (by rfl) aC) (Zm cH)) (by rfl) aC Zn (by lia)) (Ab (Cg dA) (by simp)))) (by simp)) dA) (Aa (Bb (Al (by rfl) aC) (by rfl) aC Zn rfl) (Ab (Ak (Bm he (by rfl) aC rfl) (Ab (Ao aR) (by simp))) (by simp))))) aR) (Aa (Ba (v':=cur.length) (Ag (At (by rfl) aC) (Zm bS)) (by rfl) aC Zn (by lia)) (Aa (An (v':=(cur.length - cur.length)) (loc':=[("self",.self x),("v_1",.int (cur.length - cur.length)),("v_2",.int (cur.length - cur.length)),("v_3",.int (cur.length - cur.length)),("v_4",.int (cur.length - cur.length))]) (Ag (At (by rfl) aC) (Al (by rfl) aC)) cZ Zn (by first | rfl | lia) (by rfl)) (Aa (As (Ab (Ak (Bm h1 (by rfl) aC rfl) (Aa (Ba (v':=c1) (Ag (At (by rfl) aC) (Zm cZ)) (by rfl) aC Zn (by lia)) (Ab (Ao aR) (by simp)))) (by simp)) aR) (Aa (An (v':=(cur.length - c1)) (loc':=[("self",.self x),("v_1",.int (cur.length - cur.length)),("v_2",.int (cur.length - cur.length)),("v_3",.int (cur.length - cur.length)),("v_4",.int (cur.length - cur.length)),("v_5",.int (cur.length - c1))]) (Ag (At (by rfl) aC) (Al (by rfl) aC)) cY Zn (by first | rfl | lia) (by rfl)) (Aa (Ay (Aa (Af (Bs h2 (by rfl) aC rfl) Ad) (Aa (Bn (v':=c2) Ae (by rfl) aC (by lia)) Ad)) (by simp)) (Aa (Bb (Al (by rfl) aC) (by rfl) aC Zn rfl) (Ab (Ak (Bc (Ai (Av (Zm aC) (by rfl) (by rfl) bM (Ah (Ev.gaou aW) Aq) hg (fun _=>⟨_,rfl⟩)) Zn)) (Ab (Ax Ap) (by simp))) (by simp)))))))))))) (aD rfl (aD rfl aP)) rfl
    ·
      refine' Ex.postE _ (Az (Whl.ret (Ai Ap Zn) (Aa (An (v':=(cur.length - cur.length)) (loc':=[("self",.self x),("v_1",.int (cur.length - cur.length)),("v_2",.int (cur.length - cur.length))]) (Ag (At (by rfl) aC) (Al (by rfl) aC)) bS Zn (by first | rfl | lia) (by rfl)) (Aa (As (Aa (An (v':=(cur.length - cur.length)) (loc':=[("self",.self x),("v_1",.int (cur.length - cur.length)),("v_2",.int (cur.length - cur.length)),("v_3",.int (cur.length - cur.length))]) (Ag (At (by rfl) aC) (Al (by rfl) aC)) cH Zn (by first | rfl | lia) (by rfl)) (Aa (Ex.try_lab1 (Ab (Ak (Bm h1 (by rfl) aC rfl) (Aa (Ba (v':=c1) (Ag (At (by rfl) aC) (Zm cH)) (by rfl) aC Zn (by lia)) (Ab (Cg dA) (by simp)))) (by simp)) dA) (Aa (Bb (Al (by rfl) aC) (by rfl) aC Zn rfl) (Ab (Ak (Bm he (by rfl) aC rfl) (Ab (Ao aR) (by simp))) (by simp))))) aR) (Aa (Ba (v':=cur.length) (Ag (At (by rfl) aC) (Zm bS)) (by rfl) aC Zn (by lia)) (Aa (An (v':=(cur.length - cur.length)) (loc':=[("self",.self x),("v_1",.int (cur.length - cur.length)),("v_2",.int (cur.length - cur.length)),("v_3",.int (cur.length - cur.length)),("v_4",.int (cur.length - cur.length))]) (Ag (At (by rfl) aC) (Al (by rfl) aC)) cZ Zn (by first | rfl | lia) (by rfl)) (Aa (As (Ab (Ak (Bm h1 (by rfl) aC rfl) (Aa (Ba (v':=c1) (Ag (At (by rfl) aC) (Zm cZ)) (by rfl) aC Zn (by lia)) (Ab (Ao aR) (by simp)))) (by simp)) aR) (Aa (An (v':=(cur.length - c1)) (loc':=[("self",.self x),("v_1",.int (cur.length - cur.length)),("v_2",.int (cur.length - cur.length)),("v_3",.int (cur.length - cur.length)),("v_4",.int (cur.length - cur.length)),("v_5",.int (cur.length - c1))]) (Ag (At (by rfl) aC) (Al (by rfl) aC)) cY Zn (by first | rfl | lia) (by rfl)) (Aa (As (Ab (Ak (Bm h2 (by rfl) aC rfl) (Aa (Ba (v':=c2) (Ag (At (by rfl) aC) (Zm cY)) (by rfl) aC Zn (by lia)) (Ab (Ao aR) (by simp)))) (by simp)) aR) (Aa (Bb (Al (by rfl) aC) (by rfl) aC Zn rfl) (Ab (Ak (Bc (Ai (Av (Zm aC) (by rfl) (by rfl) bM (Ah (Ev.gaou aW) Aq) hg (fun _=>⟨_,rfl⟩)) Zn)) (Ab (Ax Ap) (by simp))) (by simp)))))))))))) (aD rfl (aD rfl aP)) rfl
theorem corr_o8 {d:Nat} {x dx:Addr} {cur:T} {c c5:Nat} {lm bra ket q a:Int} (hf:FAB A8 cur c q c5) (h0:q=0→c5=c):Ex (d+1) (aE (stC 6 10)) (nthS (aG (stC 6 10)) 7) ⟨[("self",.self x),("v_1",.int a),("v_6",.int (lm - c))],.some (x,dx,FF cur c lm 0 bra ket)⟩ .next ⟨[("self",.self x),("v_1",.int a),("v_6",.int (lm - c))],.some (x,dx,FF cur c5 lm 0 bra ket)⟩:=by
  by_cases hq:q=0
  · have h1:=h0 hq
    refine' (As (Ab (Ak (Ac (Av (Zm aC) (by rfl) (by rfl) aS (Ah (Ev.a8 aW) Aq) hf (fun _=>⟨_,rfl⟩)) Ae (bY (by lia))) (Aa (Ba (v':=c5) (Ag (At (by rfl) aC) (Zm mZ)) (by rfl) aC Zn (by lia)) (Ab (Ao aR) (by simp)))) (by simp)) aR)
  · refine' (Ay (Aa (Af (Ac (Av (Zm aC) (by rfl) (by rfl) aS (Ah (Ev.a8 aW) Aq) hf (fun _=>⟨_,rfl⟩)) Ae (aI (by lia))) Ad) Ad) (by simp))
theorem corr_hs_ok {d:Nat} {x dx:Addr} {cur:T} {c c':Nat} {lm bra ket:Int} {v_1 v_6:Int} (h:Bnd cur c c'):Ex d (aE (stC 6 10)) (nthS (aG (stC 6 10)) 8) ⟨[("self",.self x),("v_1",.int v_1),("v_6",.int v_6)],.some (x,dx,FF cur c lm 0 bra ket)⟩ .next ⟨[("self",.self x),("v_1",.int v_1),("v_6",.int v_6)],.some (x,dx,FF cur c' lm 0 bra ket)⟩:=by
  rcases bnd_is h with ⟨h1,h2⟩ | ⟨h1,hc⟩
  · rw [h1,h2]
    refine' (Az (Bi (Ai Ap Zn) (Ab (Ay (Aa (Af (Ac (Al (by rfl) aC) (Ev.gB (by rfl) aC) (dT (by lia))) Ad) (Ab Bq (by simp))) (by simp)) (by simp))))
  · have h0:=h1.1
    refine' (Az (Bi (Ai Ap Zn) (Aa (As (Ab (Ak (Ac (Al (by rfl) aC) (Ev.gB (by rfl) aC) (eC (by lia))) (Ab (Ao aR) (by simp))) (by simp)) aR) (Aa (Af (Bs h1 (by rfl) aC rfl) Ad) (Aa (Bn (v':=c') Ae (by rfl) aC (by lia)) (Ab Bq (by simp)))))))
theorem corr_hs_no {d:Nat} {x dx:Addr} {cur:T} {c:Nat} {lm bra ket:Int} {v_1 v_6:Int} (h:NoBnd cur c):Ex d (aE (stC 6 10)) (nthS (aG (stC 6 10)) 8) ⟨[("self",.self x),("v_1",.int v_1),("v_6",.int v_6)],.some (x,dx,FF cur c lm 0 bra ket)⟩ (.ret (.bool false)) ⟨[("self",.self x),("v_1",.int v_1),("v_6",.int v_6)],.some (x,dx,FF cur c lm 0 bra ket)⟩:=by
  obtain ⟨h0,h1⟩:=nobnd_is h
  refine' (Az (Whl.ret (Ai Ap Zn) (Aa (As (Ab (Ak (Ac (Al (by rfl) aC) (Ev.gB (by rfl) aC) (eC (by lia))) (Ab (Ao aR) (by simp))) (by simp)) aR) (Ab (Ak (Bm h1 (by rfl) aC rfl) (Ab (Ax Ap) (by simp))) (by simp)))))
theorem corr_v0 {cur:T} {c1 c2 c3 c4 c5:Nat} {q q':Int} (hcl:cur.length≤60000) (hw:CW cur (.ret (.bool false)) c1 c2):PR 287 cur false cur:=fun bra ket=>by
  refine ⟨c2,c1,cur.length,fun {d x dx}=>?_⟩
  refine' Au eE rfl (.inl rfl) (Aa (Bl (Al (by rfl) aC) (by rfl) aC Zn rfl) (Aa (Bb (Al (by rfl) aC) (by rfl) aC Zn rfl) (Aa (An (v':=(cur.length - cur.length)) (loc':=[("self",.self x),("v_1",.int (cur.length - cur.length))]) (Ag (At (by rfl) aC) (Al (by rfl) aC)) iO Zn (by first | rfl | lia) (by rfl)) (Ab (Bt (by kernel_rfl) hw) (by simp))))) ?_
  rfl
theorem corr_i {cur:T} {c1 c2 c3 c4 c5:Nat} {q q':Int} (hcl:cur.length≤60000) (hw:CW cur .next c1 c2) (hi:Isnt 105 cur c2):PR 287 cur false cur:=fun bra ket=>by
  refine ⟨c2,c1,cur.length,fun {d x dx}=>?_⟩
  refine' Au eE rfl (.inl rfl) (Aa (Bl (Al (by rfl) aC) (by rfl) aC Zn rfl) (Aa (Bb (Al (by rfl) aC) (by rfl) aC Zn rfl) (Aa (An (v':=(cur.length - cur.length)) (loc':=[("self",.self x),("v_1",.int (cur.length - cur.length))]) (Ag (At (by rfl) aC) (Al (by rfl) aC)) iO Zn (by first | rfl | lia) (by rfl)) (Aa (Bt (by kernel_rfl) hw) (Ab (Ak (Bm hi (by rfl) aC rfl) (Ab (Ax Ap) (by simp))) (by simp)))))) ?_
  rfl
theorem corr_no {cur:T} {c1 c2 c3 c4 c5:Nat} {q q':Int} (hcl:cur.length≤60000) (hw:CW cur .next c1 c2) (hi:Is 105 cur c2) (hf:FAB A8 cur (c2 - 1) q c4) (h8:q=0→c4=c2 - 1) (hb:NoBnd cur c4):PR 287 cur false cur:=fun bra ket=>by
  have h0:=hi.1
  refine ⟨c4,c1,cur.length,fun {d x dx}=>?_⟩
  refine' Au eE rfl (.inl rfl) (Aa (Bl (Al (by rfl) aC) (by rfl) aC Zn rfl) (Aa (Bb (Al (by rfl) aC) (by rfl) aC Zn rfl) (Aa (An (v':=(cur.length - cur.length)) (loc':=[("self",.self x),("v_1",.int (cur.length - cur.length))]) (Ag (At (by rfl) aC) (Al (by rfl) aC)) iO Zn (by first | rfl | lia) (by rfl)) (Aa (Bt (by kernel_rfl) hw) (Aa (Af (Bs hi (by rfl) aC rfl) Ad) (Aa (Bn (v':=(c2 - 1:Nat)) Ae (by rfl) aC (by lia)) (Aa (An (v':=(cur.length - (c2 - 1:Nat))) (loc':=[("self",.self x),("v_1",.int (cur.length - cur.length)),("v_6",.int (cur.length - (c2 - 1:Nat)))]) (Ag (At (by rfl) aC) (Al (by rfl) aC)) mZ Zn (by first | rfl | lia) (by rfl)) (Aa (Bt (by kernel_rfl) (corr_o8 hf h8)) (Ab (Bt (by kernel_rfl) (corr_hs_no hb)) (by simp)))))))))) ?_
  rfl
theorem corr_yes {cur:T} {c1 c2 c3 c4 c5:Nat} {q q':Int} (hcl:cur.length≤60000) (hw:CW cur .next c1 c2) (hi:Is 105 cur c2) (hf:FAB A8 cur (c2 - 1) q c4) (h8:q=0→c4=c2 - 1) (hb:Bnd cur c4 c5) (hle:c1≤cur.length):PR 287 cur true (cur.take c1):=fun bra ket=>by
  have h0:=hi.1
  refine ⟨rcc cur.length c1 cur.length [],c1,c1+(([]:T).length:Int),fun {d x dx}=>?_⟩
  refine' Au eE rfl (.inl rfl) (Aa (Bl (Al (by rfl) aC) (by rfl) aC Zn rfl) (Aa (Bb (Al (by rfl) aC) (by rfl) aC Zn rfl) (Aa (An (v':=(cur.length - cur.length)) (loc':=[("self",.self x),("v_1",.int (cur.length - cur.length))]) (Ag (At (by rfl) aC) (Al (by rfl) aC)) iO Zn (by first | rfl | lia) (by rfl)) (Aa (Bt (by kernel_rfl) hw) (Aa (Af (Bs hi (by rfl) aC rfl) Ad) (Aa (Bn (v':=(c2 - 1:Nat)) Ae (by rfl) aC (by lia)) (Aa (An (v':=(cur.length - (c2 - 1:Nat))) (loc':=[("self",.self x),("v_1",.int (cur.length - cur.length)),("v_6",.int (cur.length - (c2 - 1:Nat)))]) (Ag (At (by rfl) aC) (Al (by rfl) aC)) mZ Zn (by first | rfl | lia) (by rfl)) (Aa (Bt (by kernel_rfl) (corr_o8 hf h8)) (Aa (Bt (by kernel_rfl) (corr_hs_ok hb)) (Aa (Ba (v':=cur.length) (Ag (At (by rfl) aC) (Zm iO)) (by rfl) aC Zn (by lia)) (Aa (Bg (Aw (Zm aC) (by rfl) (by rfl) hG (del_end hcl hle) (fun _=>⟨_,rfl⟩)) (by rfl) Zn) (Ab (Ax Ap) (by simp))))))))))))) ?_
  rfl
noncomputable abbrev Bz:=@Ex.postE
theorem dL:(aE (stC 6 6)).names.lookup ("EsperantoStemmer" : Str)=some NameKind.globalImplicit:=by kernel_rfl
theorem cX:(aE (stC 6 6)).names.lookup ("lab0" : Str)=some NameKind.globalImplicit:=by kernel_rfl
theorem kJ:(aE (stC 6 6)).names.lookup ("lab1" : Str)=some NameKind.globalImplicit:=by kernel_rfl
theorem aK:(aE (stC 6 6)).names.lookup ("self" : Str)=some NameKind.local:=by kernel_rfl
theorem eW:(aE (stC 6 6)).names.lookup ("v_1" : Str)=some NameKind.local:=by kernel_rfl
theorem bR:(aE (stC 6 12)).names.lookup ("EsperantoStemmer" : Str)=some NameKind.globalImplicit:=by kernel_rfl
theorem bL:(aE (stC 6 12)).names.lookup ("among_var" : Str)=some NameKind.local:=by kernel_rfl
theorem fI:(aE (stC 6 12)).names.lookup ("lab0" : Str)=some NameKind.globalImplicit:=by kernel_rfl
theorem aT:(aE (stC 6 12)).names.lookup ("self" : Str)=some NameKind.local:=by kernel_rfl
theorem iN:(aE (stC 6 12)).names.lookup ("v_1" : Str)=some NameKind.local:=by kernel_rfl
theorem n6_12_v_2:(aE (stC 6 12)).names.lookup ("v_2" : Str)=some NameKind.local:=by kernel_rfl
noncomputable def IGG (l:List Nat) (cur:T) (n:Nat) (b:Bool) (c:Nat):Prop:=∀ {d:Nat} {x dx:Addr} {lm bra ket:Int},
  CallOK (d+1) 77 [.self x,.grp l] (.some (x,dx,FF cur n lm 0 bra ket)) (.bool b) (.some (x,dx,FF cur c lm 0 bra ket))
theorem igg_yes {l:List Nat} {cur:T} {n ch:Nat} (h0:0 < n) (h:cur[n - 1]?=some ch) (hl:ch∈l):IGG l cur n true (n - 1):=fun {d x dx lm bra ket}=>by
  have h1:=igb_g_yes (d:=d) (x:=x) (dx:=dx) (c:=n) (lm:=lm) (lb:=0) (bra:=bra) (ket:=ket) (by lia) (by lia) (eS h0 h) (by simp [hl]:decide (ch ∉ l)=false)
  rw [show ((n:Int) - 1)=((n - 1:Nat):Int) by lia] at h1
  exact h1
theorem igg_no {l:List Nat} {cur:T} {n:Nat} (h:n=0∨∃ ch,0 < n∧cur[n - 1]?=some ch∧ch ∉ l):IGG l cur n false n:=fun {d x dx lm bra ket}=>by
  rcases h with h | ⟨ch,h0,h,hl⟩
  · exact igb_g_lo (by lia)
  · exact igb_g_no (by lia) (by lia) (eS h0 h) (by simp [hl])
noncomputable def EQB (y:T) (cur:T) (n:Nat) (b:Bool) (c:Nat):Prop:=∀ {d:Nat} {x dx:Addr} {lm bra ket:Int},
  CallOK (d+1) 126 [.self x,.str y] (.some (x,dx,FF cur n lm 0 bra ket)) (.bool b) (.some (x,dx,FF cur c lm 0 bra ket))
theorem eqb_yes {y cur:T} {n:Nat} (h:n≤cur.length) (he:y <:+ cur.take n):EQB y cur n true (n - y.length):=fun {d x dx lm bra ket}=>by
  have hl:y.length≤(cur.take n).length:=he.length_le
  have h1:=eqsb_yes (d:=d) (x:=x) (dx:=dx) (c:=n) (lm:=lm) (lb:=0) (bra:=bra) (ket:=ket) (cur:=cur) (y:=y) (by lia) (by rw [sl0 h]; exact decide_eq_true ⟨hl,List.suffix_iff_eq_drop.mp he |>.symm⟩)
  rw [List.length_take] at hl
  rw [show ((n:Int) - y.length)=((n - y.length:Nat):Int) by lia] at h1
  exact h1
theorem eqb_no {y cur:T} {n:Nat} (h:n≤cur.length) (he:¬ y <:+ cur.take n):EQB y cur n false n:=fun {d x dx lm bra ket} =>
  eqsb_no (by lia) (by rw [sl0 h]; exact decide_eq_false fun q=>he (List.suffix_iff_eq_drop.mpr q.2.symm))
theorem std_if_ok {d:Nat} {x dx:Addr} {cur:T} {c1 c2:Nat} {lm bra ket q:Int} (h:q≠1∨(q=1∧Is 45 cur c1)∨(q=1∧Isnt 45 cur c1∧IGG [48,49,50,51,52,53,54,55,56,57] cur c1 true c2)):Ex (d+1) (aE (stC 6 12)) (nthS (aG (stC 6 12)) 3) ⟨[("self",.self x),("among_var",.int q)],.some (x,dx,FF cur c1 lm 0 bra ket)⟩ .next ⟨[("self",.self x),("among_var",.int q)],.some (x,dx,FF cur c1 lm 0 bra ket)⟩:=by
  rcases h with h | ⟨h,h1⟩ | ⟨h,h1,hg⟩
  · refine' Bz _ (Af (Ac (Zm bL) Ae (aI (by lia))) Ad) (aD rfl (aD rfl aP)) rfl
  · have h0:=h1.1
    refine' Bz _ (Ak (Ac (Zm bL) Ae (bY (by lia))) (Aa (An (v':=(lm - c1)) (loc':=[("self",.self x),("among_var",.int q),("v_1",.int (lm - c1))]) (Ag (At (by rfl) aT) (Al (by rfl) aT)) iN Zn (by first | rfl | lia) (by rfl)) (Aa (Az (Bi (Ai Ap Zn) (Ab (Ay (Aa (Af (Bs h1 (by rfl) aT rfl) Ad) (Aa (Bn (v':=(c1 - 1:Nat)) Ae (by rfl) aT (by lia)) (Ab Bq (by simp)))) (by simp)) (by simp)))) (Aa (Ba (v':=c1) (Ag (At (by rfl) aT) (Zm iN)) (by rfl) aT Zn (by lia)) Ad)))) (aD rfl (aD rfl aP)) rfl
  · refine' Bz _ (Ak (Ac (Zm bL) Ae (bY (by lia))) (Aa (An (v':=(lm - c1)) (loc':=[("self",.self x),("among_var",.int q),("v_1",.int (lm - c1))]) (Ag (At (by rfl) aT) (Al (by rfl) aT)) iN Zn (by first | rfl | lia) (by rfl)) (Aa (Az (Bi (Ai Ap Zn) (Aa (As (Ab (Ak (Bm h1 (by rfl) aT rfl) (Ab (Ao fI) (by simp))) (by simp)) fI) (Aa (Af (Bh (Ai (Av (Zm aT) (by rfl) (by rfl) bM (Ah (Ev.gdigit bR) Aq) hg (fun _=>⟨_,rfl⟩)) Zn)) Ad) (Ab Bq (by simp)))))) (Aa (Ba (v':=c1) (Ag (At (by rfl) aT) (Zm iN)) (by rfl) aT Zn (by lia)) Ad)))) (aD rfl (aD rfl aP)) rfl
theorem std_if_no {d:Nat} {x dx:Addr} {cur:T} {c1:Nat} {lm bra ket q:Int} (h:q=1) (h1:Isnt 45 cur c1) (hg:IGG [48,49,50,51,52,53,54,55,56,57] cur c1 false c1):Ex (d+1) (aE (stC 6 12)) (nthS (aG (stC 6 12)) 3) ⟨[("self",.self x),("among_var",.int q)],.some (x,dx,FF cur c1 lm 0 bra ket)⟩ (.ret (.bool false)) ⟨[("self",.self x),("among_var",.int q)],.some (x,dx,FF cur c1 lm 0 bra ket)⟩:=by
  refine' Bz _ (Ak (Ac (Zm bL) Ae (bY (by lia))) (Aa (An (v':=(lm - c1)) (loc':=[("self",.self x),("among_var",.int q),("v_1",.int (lm - c1))]) (Ag (At (by rfl) aT) (Al (by rfl) aT)) iN Zn (by first | rfl | lia) (by rfl)) (Ab (Az (Whl.ret (Ai Ap Zn) (Aa (As (Ab (Ak (Bm h1 (by rfl) aT rfl) (Ab (Ao fI) (by simp))) (by simp)) fI) (Ab (Ak (Bc (Ai (Av (Zm aT) (by rfl) (by rfl) bM (Ah (Ev.gdigit bR) Aq) hg (fun _=>⟨_,rfl⟩)) Zn)) (Ab (Ax Ap) (by simp))) (by simp))))) (by simp)))) (aD rfl (aD rfl aP)) rfl
theorem std_o {d:Nat} {x dx:Addr} {cur:T} {n c:Nat} {lm bra ket:Int} {among_var:Int} (h:Opt 45 cur n c):Ex d (aE (stC 6 12)) (nthS (aG (stC 6 12)) 5) ⟨[("self",.self x),("among_var",.int among_var),("v_2",.int (lm - n))],.some (x,dx,FF cur n lm 0 bra ket)⟩ .next ⟨[("self",.self x),("among_var",.int among_var),("v_2",.int (lm - n))],.some (x,dx,FF cur c lm 0 bra ket)⟩:=by
  rcases lV h with ⟨h1,hc⟩ | ⟨h1,hc⟩
  · have h0:=h1.1
    refine' (Ay (Aa (Af (Bs h1 (by rfl) aT rfl) Ad) (Aa (Bn (v':=c) Ae (by rfl) aT (by lia)) Ad)) (by simp))
  · refine' (As (Ab (Ak (Bm h1 (by rfl) aT rfl) (Aa (Ba (v':=c) (Ag (At (by rfl) aT) (Zm n6_12_v_2)) (by rfl) aT Zn (by lia)) (Ab (Ao fI) (by simp)))) (by simp)) fI)
theorem std_none {cur:T} {c1 c2 c3 c4 c5:Nat} {q q':Int} (hcl:cur.length≤60000) (hf:FAB A9 cur cur.length q c1) (hq:q=0):PR 301 cur false cur:=fun bra ket=>by
  refine ⟨c1,bra,cur.length,fun {d x dx}=>?_⟩
  refine' Au eA rfl (.inl rfl) (Aa (Bl (Al (by rfl) aT) (by rfl) aT Zn rfl) (Aa (An (v':=q) (loc':=[("self",.self x),("among_var",.int q)]) (Av (Zm aT) (by rfl) (by rfl) aS (Ah (Ev.a9 bR) Aq) hf (fun _=>⟨_,rfl⟩)) bL Zn (by first | rfl | lia) (by rfl)) (Ab (Ak (Ac (Zm bL) Ae (bY (by lia))) (Ab (Ax Ap) (by simp))) (by simp)))) ?_
  rfl
theorem std_no {cur:T} {c1 c2 c3 c4 c5:Nat} {q q':Int} (hcl:cur.length≤60000) (hf:FAB A9 cur cur.length q c1) (hq:q=1) (h1:Isnt 45 cur c1) (hg:IGG [48,49,50,51,52,53,54,55,56,57] cur c1 false c1):PR 301 cur false cur:=fun bra ket=>by
  refine ⟨c1,bra,cur.length,fun {d x dx}=>?_⟩
  refine' Au eA rfl (.inl rfl) (Aa (Bl (Al (by rfl) aT) (by rfl) aT Zn rfl) (Aa (An (v':=q) (loc':=[("self",.self x),("among_var",.int q)]) (Av (Zm aT) (by rfl) (by rfl) aS (Ah (Ev.a9 bR) Aq) hf (fun _=>⟨_,rfl⟩)) bL Zn (by first | rfl | lia) (by rfl)) (Aa (Af (Ac (Zm bL) Ae (aI (by lia))) Ad) (Ab (Bt (by kernel_rfl) (std_if_no hq h1 hg)) (by simp))))) ?_
  rfl
theorem std_yes {cur:T} {c1 c2 c3 c4 c5:Nat} {q q':Int} (hcl:cur.length≤60000) (hf:FAB A9 cur cur.length q c1) (hq:q≠0) (h:q≠1∨(q=1∧Is 45 cur c1)∨(q=1∧Isnt 45 cur c1∧IGG [48,49,50,51,52,53,54,55,56,57] cur c1 true c2)) (hle:c1≤cur.length) (ho:Opt 45 cur c1 c3):PR 301 cur true (cur.take c3):=fun bra ket=>by
  have hle3:c3≤cur.length:=Nat.le_trans ho.le hle
  refine ⟨rcc c3 c3 cur.length [],c3,c3+(([]:T).length:Int),fun {d x dx}=>?_⟩
  refine' Au eA rfl (.inl rfl) (Aa (Bl (Al (by rfl) aT) (by rfl) aT Zn rfl) (Aa (An (v':=q) (loc':=[("self",.self x),("among_var",.int q)]) (Av (Zm aT) (by rfl) (by rfl) aS (Ah (Ev.a9 bR) Aq) hf (fun _=>⟨_,rfl⟩)) bL Zn (by first | rfl | lia) (by rfl)) (Aa (Af (Ac (Zm bL) Ae (aI (by lia))) Ad) (Aa (Bt (by kernel_rfl) (std_if_ok h)) (Aa (An (v':=(cur.length - c1)) (loc':=[("self",.self x),("among_var",.int q),("v_2",.int (cur.length - c1))]) (Ag (At (by rfl) aT) (Al (by rfl) aT)) n6_12_v_2 Zn (by first | rfl | lia) (by rfl)) (Aa (Bt (by kernel_rfl) (std_o ho)) (Aa (Bb (Al (by rfl) aT) (by rfl) aT Zn rfl) (Aa (Bg (Aw (Zm aT) (by rfl) (by rfl) hG (del_end hcl hle3) (fun _=>⟨_,rfl⟩)) (by rfl) Zn) (Ab (Ax Ap) (by simp)))))))))) ?_
  rfl
theorem fa_hs_ok {d:Nat} {x dx:Addr} {cur:T} {c c':Nat} {lm bra ket:Int} {v_1:Int} (h:Bnd cur c c'):Ex d (aE (stC 6 6)) (nthS (cU (nthS (cU (nthS (aG (stC 6 6)) 4)) 5)) 1) ⟨[("self",.self x),("v_1",.int v_1)],.some (x,dx,FF cur c lm 0 bra ket)⟩ .next ⟨[("self",.self x),("v_1",.int v_1)],.some (x,dx,FF cur c' lm 0 bra ket)⟩:=by
  rcases bnd_is h with ⟨h1,h2⟩ | ⟨h1,hc⟩
  · rw [h1,h2]
    refine' (Az (Bi (Ai Ap Zn) (Ab (Ay (Aa (Af (Ac (Al (by rfl) aK) (Ev.gB (by rfl) aK) (dT (by lia))) Ad) (Ab Bq (by simp))) (by simp)) (by simp))))
  · have h0:=h1.1
    refine' (Az (Bi (Ai Ap Zn) (Aa (Ex.try_lab1 (Ab (Ak (Ac (Al (by rfl) aK) (Ev.gB (by rfl) aK) (eC (by lia))) (Ab (Cg kJ) (by simp))) (by simp)) kJ) (Aa (Af (Bs h1 (by rfl) aK rfl) Ad) (Aa (Bn (v':=c') Ae (by rfl) aK (by lia)) (Ab Bq (by simp)))))))
theorem fa_hs_no {d:Nat} {x dx:Addr} {cur:T} {c:Nat} {lm bra ket:Int} {v_1:Int} (h:NoBnd cur c):Ex d (aE (stC 6 6)) (nthS (cU (nthS (cU (nthS (aG (stC 6 6)) 4)) 5)) 1) ⟨[("self",.self x),("v_1",.int v_1)],.some (x,dx,FF cur c lm 0 bra ket)⟩ (.exc 684) ⟨[("self",.self x),("v_1",.int v_1)],.some (x,dx,FF cur c lm 0 bra ket)⟩:=by
  obtain ⟨h0,h1⟩:=nobnd_is h
  refine' (Az (Whl.exc (Ai Ap Zn) (Aa (Ex.try_lab1 (Ab (Ak (Ac (Al (by rfl) aK) (Ev.gB (by rfl) aK) (eC (by lia))) (Ab (Cg kJ) (by simp))) (by simp)) kJ) (Ab (Ak (Bm h1 (by rfl) aK rfl) (Ab (Ao cX) (by simp))) (by simp)))))
theorem fa_t1 {cur:T} {n:Nat} (h:Isnt 108 cur n∨(Is 108 cur n∧1 < n)):∃ c':Int,∀ {d:Nat} {x dx:Addr} {lm bra ket a:Int},Ex (d+1) (aE (stC 6 6)) (nthS (cU (nthS (aG (stC 6 6)) 4)) 1) ⟨[("self",.self x),("v_1",.int a)],.some (x,dx,FF cur n lm 0 bra ket)⟩ .next ⟨[("self",.self x),("v_1",.int a)],.some (x,dx,FF cur c' lm 0 bra ket)⟩:=by
  rcases h with h | ⟨h,h0⟩
  ·
    exact ⟨n,by intros; refine' (As (Ab (Ak (Bm h (by rfl) aK rfl) (Ab (Ao cX) (by simp))) (by simp)) cX)⟩
  ·
    exact ⟨(n - 1:Nat),by intros; refine' (As (Aa (Af (Bs h (by rfl) aK rfl) Ad) (Aa (Bn (v':=(n - 1:Nat)) Ae (by rfl) aK (by lia)) (Ab (Ak (Ac (Al (by rfl) aK) (Ev.gB (by rfl) aK) (eC (by lia))) (Ab (Ao cX) (by simp))) (by simp)))) cX)⟩
theorem fa_t2 {cur:T} {n c2:Nat} (h:EQB [117,110] cur n false n∨(EQB [117,110] cur n true c2∧0 < c2)):∃ c':Int,∀ {d:Nat} {x dx:Addr} {lm bra ket a:Int},Ex (d+1) (aE (stC 6 6)) (nthS (cU (nthS (aG (stC 6 6)) 4)) 3) ⟨[("self",.self x),("v_1",.int a)],.some (x,dx,FF cur n lm 0 bra ket)⟩ .next ⟨[("self",.self x),("v_1",.int a)],.some (x,dx,FF cur c' lm 0 bra ket)⟩:=by
  rcases h with h | ⟨h,h0⟩
  ·
    exact ⟨n,by intros; refine' (As (Ab (Ak (Bc (Ai (Av (Zm aK) (by rfl) (by rfl) m_eq_s_b (Ah (Ar (x:=[117,110]) (by rfl) Zb) Aq) h (fun _=>⟨_,rfl⟩)) Zn)) (Ab (Ao cX) (by simp))) (by simp)) cX)⟩
  ·
    exact ⟨c2,by intros; refine' (As (Aa (Af (Bh (Ai (Av (Zm aK) (by rfl) (by rfl) m_eq_s_b (Ah (Ar (x:=[117,110]) (by rfl) Zb) Aq) h (fun _=>⟨_,rfl⟩)) Zn)) Ad) (Ab (Ak (Ac (Al (by rfl) aK) (Ev.gB (by rfl) aK) (eC (by lia))) (Ab (Ao cX) (by simp))) (by simp))) cX)⟩
theorem fa_t3 {cur:T} {n c3:Nat} {q:Int} (h:FAB A3 cur n q c3) (h0:q=0∨(q≠0∧NoBnd cur c3)):∃ c':Int,∀ {d:Nat} {x dx:Addr} {lm bra ket a:Int},Ex (d+1) (aE (stC 6 6)) (nthS (cU (nthS (aG (stC 6 6)) 4)) 5) ⟨[("self",.self x),("v_1",.int a)],.some (x,dx,FF cur n lm 0 bra ket)⟩ .next ⟨[("self",.self x),("v_1",.int a)],.some (x,dx,FF cur c' lm 0 bra ket)⟩:=by
  rcases h0 with h0 | ⟨h0,hb⟩
  ·
    exact ⟨c3,by intros; refine' (As (Ab (Ak (Ac (Av (Zm aK) (by rfl) (by rfl) aS (Ah (Ev.a3 dL) Aq) h (fun _=>⟨_,rfl⟩)) Ae (bY (by lia))) (Ab (Ao cX) (by simp))) (by simp)) cX)⟩
  ·
    exact ⟨c3,by intros; refine' (As (Aa (Af (Ac (Av (Zm aK) (by rfl) (by rfl) aS (Ah (Ev.a3 dL) Aq) h (fun _=>⟨_,rfl⟩)) Ae (aI (by lia))) Ad) (Ab (Bt (by kernel_rfl) (fa_hs_no hb)) (by simp))) cX)⟩
noncomputable def FW (cur:T) (n:Nat) (cur':T):Prop:=∃ c' bra' ket':Int,∀ {d:Nat} {x dx:Addr},
  Ex (d+2) (aE (stC 6 6)) (nthS (aG (stC 6 6)) 4) ⟨[("self",.self x)],.some (x,dx,FF cur n cur.length 0 n cur.length)⟩ .next ⟨[("self",.self x)],.some (x,dx,FF cur' c' cur'.length 0 bra' ket')⟩
theorem fw_l {cur:T} {n c2 c3 c4:Nat} {q:Int} (hcl:cur.length≤60000) (hle:n≤cur.length) (h:Is 108 cur n) (hn:n=1):FW cur n (cur.take n++[97]):=by
  refine ⟨(rcc (0:Nat) n cur.length [97]),n,n+(([97]:T).length:Int),fun {d x dx}=>?_⟩
  refine' Bz _ (Az (Bi (Ai Ap Zn) (Aa (An (v':=(cur.length - n)) (loc':=[("self",.self x),("v_1",.int (cur.length - n))]) (Ag (At (by rfl) aK) (Al (by rfl) aK)) eW Zn (by first | rfl | lia) (by rfl)) (Ab (Ay (Aa (Af (Bs h (by rfl) aK rfl) Ad) (Aa (Bn (v':=(0:Nat)) Ae (by rfl) aK (by lia)) (Aa (Af (Ac (Al (by rfl) aK) (Ev.gB (by rfl) aK) (dT (by lia))) Ad) (Aa (Bg (Av (Zm aK) (by rfl) (by rfl) bD (Ah (Ar (x:=[97]) (by rfl) Zb) Aq) (mJ hcl hle Zb) (fun _=>⟨_,rfl⟩)) (by rfl) Zn) (Ab Bq (by simp)))))) (by simp)) (by simp))))) (aD rfl aP) rfl
theorem fw_un {cur:T} {n c2 c3 c4:Nat} {q:Int} (hcl:cur.length≤60000) (hle:n≤cur.length) (h:Isnt 108 cur n∨(Is 108 cur n∧1 < n)) (hu:EQB [117,110] cur n true 0):FW cur n (cur.take n++[117]):=by
  obtain ⟨k1,h1⟩:=fa_t1 h
  refine ⟨(rcc (0:Nat) n cur.length [117]),n,n+(([117]:T).length:Int),fun {d x dx}=>?_⟩
  refine' Bz _ (Az (Bi (Ai Ap Zn) (Aa (An (v':=(cur.length - n)) (loc':=[("self",.self x),("v_1",.int (cur.length - n))]) (Ag (At (by rfl) aK) (Al (by rfl) aK)) eW Zn (by first | rfl | lia) (by rfl)) (Aa (Bt (by kernel_rfl) h1) (Aa (Ba (v':=n) (Ag (At (by rfl) aK) (Zm eW)) (by rfl) aK Zn (by lia)) (Ab (Ay (Aa (Af (Bh (Ai (Av (Zm aK) (by rfl) (by rfl) m_eq_s_b (Ah (Ar (x:=[117,110]) (by rfl) Zb) Aq) hu (fun _=>⟨_,rfl⟩)) Zn)) Ad) (Aa (Af (Ac (Al (by rfl) aK) (Ev.gB (by rfl) aK) (dT (by lia))) Ad) (Aa (Bg (Av (Zm aK) (by rfl) (by rfl) bD (Ah (Ar (x:=[117]) (by rfl) Zb) Aq) (mJ hcl hle Zb) (fun _=>⟨_,rfl⟩)) (by rfl) Zn) (Ab Bq (by simp))))) (by simp)) (by simp))))))) (aD rfl aP) rfl
theorem fw_adv {cur:T} {n c2 c3 c4:Nat} {q:Int} (hcl:cur.length≤60000) (hle:n≤cur.length) (h:Isnt 108 cur n∨(Is 108 cur n∧1 < n)) (h2:EQB [117,110] cur n false n∨(EQB [117,110] cur n true c2∧0 < c2)) (hf:FAB A3 cur n q c3) (hq:q≠0) (hb:Bnd cur c3 c4):FW cur n (cur.take n++[97,365]):=by
  obtain ⟨k1,h1⟩:=fa_t1 h
  obtain ⟨k2,h2⟩:=fa_t2 h2
  refine ⟨(rcc c4 n cur.length [97,365]),n,n+(([97,365]:T).length:Int),fun {d x dx}=>?_⟩
  refine' Bz _ (Az (Bi (Ai Ap Zn) (Aa (An (v':=(cur.length - n)) (loc':=[("self",.self x),("v_1",.int (cur.length - n))]) (Ag (At (by rfl) aK) (Al (by rfl) aK)) eW Zn (by first | rfl | lia) (by rfl)) (Aa (Bt (by kernel_rfl) h1) (Aa (Ba (v':=n) (Ag (At (by rfl) aK) (Zm eW)) (by rfl) aK Zn (by lia)) (Aa (Bt (by kernel_rfl) h2) (Aa (Ba (v':=n) (Ag (At (by rfl) aK) (Zm eW)) (by rfl) aK Zn (by lia)) (Ab (Ay (Aa (Af (Ac (Av (Zm aK) (by rfl) (by rfl) aS (Ah (Ev.a3 dL) Aq) hf (fun _=>⟨_,rfl⟩)) Ae (aI (by lia))) Ad) (Aa (Bt (by kernel_rfl) (fa_hs_ok hb)) (Aa (Bg (Av (Zm aK) (by rfl) (by rfl) bD (Ah (Ar (x:=[97,365]) (by rfl) Zb) Aq) (mJ hcl hle Zb) (fun _=>⟨_,rfl⟩)) (by rfl) Zn) (Ab Bq (by simp))))) (by simp)) (by simp))))))))) (aD rfl aP) rfl
theorem fw_o {cur:T} {n c2 c3 c4:Nat} {q:Int} (hcl:cur.length≤60000) (hle:n≤cur.length) (h:Isnt 108 cur n∨(Is 108 cur n∧1 < n)) (h2:EQB [117,110] cur n false n∨(EQB [117,110] cur n true c2∧0 < c2)) (hf:FAB A3 cur n q c3) (h0:q=0∨(q≠0∧NoBnd cur c3)):FW cur n (cur.take n++[111]):=by
  obtain ⟨k1,h1⟩:=fa_t1 h
  obtain ⟨k2,h2⟩:=fa_t2 h2
  obtain ⟨k3,h3⟩:=fa_t3 hf h0
  refine ⟨(rcc n n cur.length [111]),n,n+(([111]:T).length:Int),fun {d x dx}=>?_⟩
  refine' Bz _ (Az (Bi (Ai Ap Zn) (Aa (An (v':=(cur.length - n)) (loc':=[("self",.self x),("v_1",.int (cur.length - n))]) (Ag (At (by rfl) aK) (Al (by rfl) aK)) eW Zn (by first | rfl | lia) (by rfl)) (Aa (Bt (by kernel_rfl) h1) (Aa (Ba (v':=n) (Ag (At (by rfl) aK) (Zm eW)) (by rfl) aK Zn (by lia)) (Aa (Bt (by kernel_rfl) h2) (Aa (Ba (v':=n) (Ag (At (by rfl) aK) (Zm eW)) (by rfl) aK Zn (by lia)) (Aa (Bt (by kernel_rfl) h3) (Aa (Ba (v':=n) (Ag (At (by rfl) aK) (Zm eW)) (by rfl) aK Zn (by lia)) (Aa (Bg (Av (Zm aK) (by rfl) (by rfl) bD (Ah (Ar (x:=[111]) (by rfl) Zb) Aq) (mJ hcl hle Zb) (fun _=>⟨_,rfl⟩)) (by rfl) Zn) (Ab Bq (by simp)))))))))))) (aD rfl aP) rfl
theorem fap_no {cur:T} {c1 c2 c3 c4 c5:Nat} {q q':Int} (hcl:cur.length≤60000) (h:Isnt 39 cur cur.length):PR 259 cur false cur:=fun bra ket=>by
  refine ⟨cur.length,bra,cur.length,fun {d x dx}=>?_⟩
  refine' Au fC rfl (.inl rfl) (Aa (Bl (Al (by rfl) aK) (by rfl) aK Zn rfl) (Ab (Ak (Bm h (by rfl) aK rfl) (Ab (Ax Ap) (by simp))) (by simp))) ?_
  rfl
theorem fap_yes {cur cur':T} {n:Nat} (hcl:cur.length≤60000) (h:Is 39 cur cur.length) (hn:n=cur.length - 1) (hw:FW cur n cur'):PR 259 cur true cur':=fun bra ket=>by
  have h0:=h.1
  obtain ⟨k1,k2,k3,hw⟩:=hw
  refine ⟨k1,k2,k3,fun {d x dx}=>?_⟩
  refine' Au fC rfl (.inl rfl) (Aa (Bl (Al (by rfl) aK) (by rfl) aK Zn rfl) (Aa (Af (Bs h (by rfl) aK rfl) Ad) (Aa (Bn (v':=n) Ae (by rfl) aK (by lia)) (Aa (Bb (Al (by rfl) aK) (by rfl) aK Zn rfl) (Aa (Bt (by kernel_rfl) hw) (Ab (Ax Ap) (by simp))))))) ?_
  rfl
theorem bE:(aE (stC 6 11)).names.lookup ("EsperantoStemmer" : Str)=some NameKind.globalImplicit:=by kernel_rfl
theorem eT:(aE (stC 6 11)).names.lookup ("lab0" : Str)=some NameKind.globalImplicit:=by kernel_rfl
theorem jA:(aE (stC 6 11)).names.lookup ("lab1" : Str)=some NameKind.globalImplicit:=by kernel_rfl
theorem aQ:(aE (stC 6 11)).names.lookup ("self" : Str)=some NameKind.local:=by kernel_rfl
theorem n6_11_us:(aE (stC 6 11)).names.lookup ("_" : Str)=some NameKind.local:=by kernel_rfl
theorem eO:(aE (stC 6 11)).names.lookup ("v_1" : Str)=some NameKind.local:=by kernel_rfl
noncomputable def GOB (l:List Nat) (cur:T) (n:Nat) (b:Bool) (c:Nat):Prop:=∀ {d:Nat} {x dx:Addr} {lm bra ket:Int},
  CallOK (d+1) 112 [.self x,.grp l] (.some (x,dx,FF cur n lm 0 bra ket)) (.bool b) (.some (x,dx,FF cur c lm 0 bra ket))
theorem gob_yes {l:List Nat} {cur:T} {n k:Nat} (h:n≤cur.length) (hk:bP cur l n=some k):GOB l cur n true k:=fun {d x dx lm bra ket}=>gogb_some h hk
theorem gob_no {l:List Nat} {cur:T} {n:Nat} (h:n≤cur.length) (hk:bP cur l n=none):GOB l cur n false 0:=fun {d x dx lm bra ket}=>gogb_none h hk
theorem jB {l:List Nat} {cur:T}:∀ {n k:Nat},bP cur l n=some k→0 < k∧k≤n
  | 0,k,h=>by cases h
  | n+1,k,h=>by
    unfold bP at h
    split at h
    · cases h; lia
    · have:=jB h; lia
theorem lw_for_ok {d:Nat} {x dx:Addr} {cur:T} {n k1 k2:Nat} {lm bra ket a:Int} (p1:0 < k1) (p2:0 < k2) (g1:GOB [97,101,105,111,117] cur n true k1) (g2:GOB [97,101,105,111,117] cur (k1 - 1) true k2):Ex (d+1) (aE (stC 6 11)) (nthS (cU (nthS (cU (nthS (aG (stC 6 11)) 0)) 1)) 0) ⟨[("self",.self x),("v_1",.int a)],.some (x,dx,FF cur n lm 0 bra ket)⟩ .next ⟨[("self",.self x),("v_1",.int a)],.some (x,dx,FF cur (k2 - 1:Nat) lm 0 bra ket)⟩:=by
  refine' Bz _ (Ex.forPair Ae Ae n6_11_us (FRun.step [("self",.self x),("v_1",.int a)] (Aa (Af (Bh (Ai (Av (Zm aQ) (by rfl) (by rfl) bN (Ah (Ev.gvowel bE) Aq) g1 (fun _=>⟨_,rfl⟩)) Zn)) Ad) (Aa (Bn (v':=(k1 - 1:Nat)) Ae (by rfl) aQ (by lia)) Ad)) (.inl rfl) (aD rfl (aD rfl aP)) (FRun.step [("self",.self x),("v_1",.int a)] (Aa (Af (Bh (Ai (Av (Zm aQ) (by rfl) (by rfl) bN (Ah (Ev.gvowel bE) Aq) g2 (fun _=>⟨_,rfl⟩)) Zn)) Ad) (Aa (Bn (v':=(k2 - 1:Nat)) Ae (by rfl) aQ (by lia)) Ad)) (.inl rfl) (aD rfl (aD rfl aP)) FRun.done)) (fun _ _=>rfl)) (aD rfl (aD rfl aP)) rfl
theorem lw_for_no {d:Nat} {x dx:Addr} {cur:T} {n k1:Nat} {lm bra ket a:Int} (h:GOB [97,101,105,111,117] cur n false 0∨(0 < k1∧GOB [97,101,105,111,117] cur n true k1∧GOB [97,101,105,111,117] cur (k1 - 1) false 0)):Ex (d+1) (aE (stC 6 11)) (nthS (cU (nthS (cU (nthS (aG (stC 6 11)) 0)) 1)) 0) ⟨[("self",.self x),("v_1",.int a)],.some (x,dx,FF cur n lm 0 bra ket)⟩ (.exc 684) ⟨[("self",.self x),("v_1",.int a)],.some (x,dx,FF cur (0:Nat) lm 0 bra ket)⟩:=by
  rcases h with g1 | ⟨p1,g1,g2⟩
  · refine' Bz _ (Ex.forPair Ae Ae n6_11_us (FRun.exc (Ab (Ak (Bc (Ai (Av (Zm aQ) (by rfl) (by rfl) bN (Ah (Ev.gvowel bE) Aq) g1 (fun _=>⟨_,rfl⟩)) Zn)) (Ab (Ao eT) (by simp))) (by simp))) (fun _ _=>rfl)) (aD rfl (aD rfl aP)) rfl
  · refine' Bz _ (Ex.forPair Ae Ae n6_11_us (FRun.step [("self",.self x),("v_1",.int a)] (Aa (Af (Bh (Ai (Av (Zm aQ) (by rfl) (by rfl) bN (Ah (Ev.gvowel bE) Aq) g1 (fun _=>⟨_,rfl⟩)) Zn)) Ad) (Aa (Bn (v':=(k1 - 1:Nat)) Ae (by rfl) aQ (by lia)) Ad)) (.inl rfl) (aD rfl (aD rfl aP)) (FRun.exc (Ab (Ak (Bc (Ai (Av (Zm aQ) (by rfl) (by rfl) bN (Ah (Ev.gvowel bE) Aq) g2 (fun _=>⟨_,rfl⟩)) Zn)) (Ab (Ao eT) (by simp))) (by simp)))) (fun _ _=>rfl)) (aD rfl (aD rfl aP)) rfl
theorem lw_hy_w {d:Nat} {x dx:Addr} {cur:T} {lm bra ket a:Int}:∀ n:Nat,n≤cur.length →
    Whl d (aE (stC 6 11)) (wTest (nthS (cU (nthS (cU (nthS (aG (stC 6 11)) 0)) 3)) 0)) (cU (nthS (cU (nthS (cU (nthS (aG (stC 6 11)) 0)) 3)) 0)) ⟨[("self",.self x),("v_1",.int a)],.some (x,dx,FF cur n lm 0 bra ket)⟩ (if (bP cur [45] n).isSome then .next else .exc 684) ⟨[("self",.self x),("v_1",.int a)],.some (x,dx,FF cur (((bP cur [45] n).getD 1 - 1:Nat):Int) lm 0 bra ket)⟩
  | 0,h=>by
    have h1:Isnt 45 cur 0:=.inl rfl
    refine' Whl.exc (Ai Ap Zn) (Aa (Ex.try_lab1 (Ab (Ak (Bm h1 (by rfl) aQ rfl) (Ab (Cg jA) (by simp))) (by simp)) jA) (Ab (Ak (Ac (Al (by rfl) aQ) (Ev.gB (by rfl) aQ) (cS (by lia))) (Ab (Ao eT) (by simp))) (by simp)))
  | n+1,h=>by
    rcases is_or 45 cur (n+1) h with h1 | h1
    · have e:bP cur [45] (n+1)=some (n+1):=by
        unfold bP
        have h2:=h1.2
        rw [show n+1 - 1=n by lia,lO (by lia)] at h2
        rw [if_pos (List.mem_singleton.mpr (Option.some.inj h2))]
      rw [e]
      refine' Bi (Ai Ap Zn) (Ab (Ay (Aa (Af (Bs h1 (by rfl) aQ rfl) Ad) (Aa (Bn (v':=(n:Nat)) Ae (by rfl) aQ (by lia)) (Ab Bq (by simp)))) (by simp)) (by simp))
    · have e:bP cur [45] (n+1)=bP cur [45] n:=by
        conv=>lhs; unfold bP
        rcases h1 with h1 | ⟨b,h2,h3,h4⟩
        · lia
        · rw [show n+1 - 1=n by lia,lO (by lia)] at h3
          rw [if_neg (fun q=>h4 ((Option.some.inj h3).symm.trans (List.mem_singleton.mp q)))]
      rw [e]
      refine' Whl.stepE (Ai Ap Zn) (Aa (Ex.try_lab1 (Ab (Ak (Bm h1 (by rfl) aQ rfl) (Ab (Cg jA) (by simp))) (by simp)) jA) (Aa (Af (Ac (Al (by rfl) aQ) (Ev.gB (by rfl) aQ) (dF (by lia))) Ad) (Aa (Bn (v':=(n:Nat)) Ae (by rfl) aQ (by lia)) Ad))) (.inl rfl) rfl (lw_hy_w n (by lia))
theorem lw_hy_ok {d:Nat} {x dx:Addr} {cur:T} {n k:Nat} {lm bra ket a:Int} (h:n≤cur.length) (hk:bP cur [45] n=some k):Ex d (aE (stC 6 11)) (nthS (cU (nthS (cU (nthS (aG (stC 6 11)) 0)) 3)) 0) ⟨[("self",.self x),("v_1",.int a)],.some (x,dx,FF cur n lm 0 bra ket)⟩ .next ⟨[("self",.self x),("v_1",.int a)],.some (x,dx,FF cur (k - 1:Nat) lm 0 bra ket)⟩:=by
  have w:=lw_hy_w (d:=d) (x:=x) (dx:=dx) (lm:=lm) (bra:=bra) (ket:=ket) (a:=a) n h
  rw [hk] at w
  exact Az w
theorem lw_hy_no {d:Nat} {x dx:Addr} {cur:T} {n k:Nat} {lm bra ket a:Int} (h:n≤cur.length) (hk:bP cur [45] n=none):Ex d (aE (stC 6 11)) (nthS (cU (nthS (cU (nthS (aG (stC 6 11)) 0)) 3)) 0) ⟨[("self",.self x),("v_1",.int a)],.some (x,dx,FF cur n lm 0 bra ket)⟩ (.exc 684) ⟨[("self",.self x),("v_1",.int a)],.some (x,dx,FF cur (0:Nat) lm 0 bra ket)⟩:=by
  have w:=lw_hy_w (d:=d) (x:=x) (dx:=dx) (lm:=lm) (bra:=bra) (ket:=ket) (a:=a) n h
  rw [hk] at w
  exact Az w
theorem lw_ta {d:Nat} {x dx:Addr} {cur:T} {n k1:Nat} {lm bra ket a:Int} (h:GOB [97,101,105,111,117] cur n false 0∨(0 < k1∧GOB [97,101,105,111,117] cur n true k1∧GOB [97,101,105,111,117] cur (k1 - 1) false 0)):Ex (d+1) (aE (stC 6 11)) (nthS (cU (nthS (aG (stC 6 11)) 0)) 1) ⟨[("self",.self x),("v_1",.int a)],.some (x,dx,FF cur n lm 0 bra ket)⟩ .next ⟨[("self",.self x),("v_1",.int a)],.some (x,dx,FF cur (0:Nat) lm 0 bra ket)⟩:=by
  refine' (As (Ab (Bt (by kernel_rfl) (lw_for_no h)) (by simp)) eT)
theorem lw_tb {d:Nat} {x dx:Addr} {cur:T} {n:Nat} {lm bra ket a:Int} (hn:n≤cur.length) (h:bP cur [45] n=none∨bP cur [45] n=some 1):Ex (d+1) (aE (stC 6 11)) (nthS (cU (nthS (aG (stC 6 11)) 0)) 3) ⟨[("self",.self x),("v_1",.int a)],.some (x,dx,FF cur n lm 0 bra ket)⟩ .next ⟨[("self",.self x),("v_1",.int a)],.some (x,dx,FF cur (0:Nat) lm 0 bra ket)⟩:=by
  rcases h with h | h
  · refine' (As (Ab (Bt (by kernel_rfl) (lw_hy_no (k:=0) hn h)) (by simp)) eT)
  · refine' (As (Aa (Bt (by kernel_rfl) (lw_hy_ok hn h)) (Ab (Ak (Ac (Al (by rfl) aQ) (Ev.gB (by rfl) aQ) (cS (by lia))) (Ab (Ao eT) (by simp))) (by simp))) eT)
theorem lw_A {cur:T} {k1 k2:Nat} (hcl:cur.length≤60000) (p1:0 < k1) (p2:0 < k2) (g1:GOB [97,101,105,111,117] cur cur.length true k1) (g2:GOB [97,101,105,111,117] cur (k1 - 1) true k2):PR 294 cur true cur:=fun bra ket=>by
  refine ⟨(k2 - 1:Nat),bra,ket,fun {d x dx}=>?_⟩
  refine' Au fA rfl (.inl rfl) (Aa (Az (Bi (Ai Ap Zn) (Aa (An (v':=(cur.length - cur.length)) (loc':=[("self",.self x),("v_1",.int (cur.length - cur.length))]) (Ag (At (by rfl) aQ) (Al (by rfl) aQ)) eO Zn (by first | rfl | lia) (by rfl)) (Ab (Ay (Aa (Bt (by kernel_rfl) (lw_for_ok p1 p2 g1 g2)) (Ab Bq (by simp))) (by simp)) (by simp))))) (Ab (Ax Ap) (by simp))) ?_
  rfl
theorem lw_B {cur:T} {k k1:Nat} (hcl:cur.length≤60000) (ha:GOB [97,101,105,111,117] cur cur.length false 0∨(0 < k1∧GOB [97,101,105,111,117] cur cur.length true k1∧GOB [97,101,105,111,117] cur (k1 - 1) false 0)) (hb:bP cur [45] cur.length=some k) (hk:1 < k):PR 294 cur true cur:=fun bra ket=>by
  refine ⟨(k - 2:Nat),bra,ket,fun {d x dx}=>?_⟩
  refine' Au fA rfl (.inl rfl) (Aa (Az (Bi (Ai Ap Zn) (Aa (An (v':=(cur.length - cur.length)) (loc':=[("self",.self x),("v_1",.int (cur.length - cur.length))]) (Ag (At (by rfl) aQ) (Al (by rfl) aQ)) eO Zn (by first | rfl | lia) (by rfl)) (Aa (Bt (by kernel_rfl) (lw_ta ha)) (Aa (Ba (v':=cur.length) (Ag (At (by rfl) aQ) (Zm eO)) (by rfl) aQ Zn (by lia)) (Ab (Ay (Aa (Bt (by kernel_rfl) (lw_hy_ok (Nat.le_refl _) hb)) (Aa (Af (Ac (Al (by rfl) aQ) (Ev.gB (by rfl) aQ) (dF (by lia))) Ad) (Aa (Bn (v':=(k - 2:Nat)) Ae (by rfl) aQ (by lia)) (Ab Bq (by simp))))) (by simp)) (by simp))))))) (Ab (Ax Ap) (by simp))) ?_
  rfl
theorem lw_C {cur:T} {k k1:Nat} (hcl:cur.length≤60000) (ha:GOB [97,101,105,111,117] cur cur.length false 0∨(0 < k1∧GOB [97,101,105,111,117] cur cur.length true k1∧GOB [97,101,105,111,117] cur (k1 - 1) false 0)) (hb:bP cur [45] cur.length=none∨bP cur [45] cur.length=some 1) (pk:0 < k) (g3:GOB [48,49,50,51,52,53,54,55,56,57] cur cur.length true k):PR 294 cur true cur:=fun bra ket=>by
  refine ⟨(k - 1:Nat),bra,ket,fun {d x dx}=>?_⟩
  refine' Au fA rfl (.inl rfl) (Aa (Az (Bi (Ai Ap Zn) (Aa (An (v':=(cur.length - cur.length)) (loc':=[("self",.self x),("v_1",.int (cur.length - cur.length))]) (Ag (At (by rfl) aQ) (Al (by rfl) aQ)) eO Zn (by first | rfl | lia) (by rfl)) (Aa (Bt (by kernel_rfl) (lw_ta ha)) (Aa (Ba (v':=cur.length) (Ag (At (by rfl) aQ) (Zm eO)) (by rfl) aQ Zn (by lia)) (Aa (Bt (by kernel_rfl) (lw_tb (Nat.le_refl _) hb)) (Aa (Ba (v':=cur.length) (Ag (At (by rfl) aQ) (Zm eO)) (by rfl) aQ Zn (by lia)) (Aa (Af (Bh (Ai (Av (Zm aQ) (by rfl) (by rfl) bN (Ah (Ev.gdigit bE) Aq) g3 (fun _=>⟨_,rfl⟩)) Zn)) Ad) (Aa (Bn (v':=(k - 1:Nat)) Ae (by rfl) aQ (by lia)) (Ab Bq (by simp))))))))))) (Ab (Ax Ap) (by simp))) ?_
  rfl
theorem lw_no {cur:T} {k1:Nat} (hcl:cur.length≤60000) (ha:GOB [97,101,105,111,117] cur cur.length false 0∨(0 < k1∧GOB [97,101,105,111,117] cur cur.length true k1∧GOB [97,101,105,111,117] cur (k1 - 1) false 0)) (hb:bP cur [45] cur.length=none∨bP cur [45] cur.length=some 1) (g3:GOB [48,49,50,51,52,53,54,55,56,57] cur cur.length false 0):PR 294 cur false cur:=fun bra ket=>by
  refine ⟨(0:Nat),bra,ket,fun {d x dx}=>?_⟩
  refine' Au fA rfl (.inl rfl) (Ab (Az (Whl.ret (Ai Ap Zn) (Aa (An (v':=(cur.length - cur.length)) (loc':=[("self",.self x),("v_1",.int (cur.length - cur.length))]) (Ag (At (by rfl) aQ) (Al (by rfl) aQ)) eO Zn (by first | rfl | lia) (by rfl)) (Aa (Bt (by kernel_rfl) (lw_ta ha)) (Aa (Ba (v':=cur.length) (Ag (At (by rfl) aQ) (Zm eO)) (by rfl) aQ Zn (by lia)) (Aa (Bt (by kernel_rfl) (lw_tb (Nat.le_refl _) hb)) (Aa (Ba (v':=cur.length) (Ag (At (by rfl) aQ) (Zm eO)) (by rfl) aQ Zn (by lia)) (Ab (Ak (Bc (Ai (Av (Zm aQ) (by rfl) (by rfl) bN (Ah (Ev.gdigit bE) Aq) g3 (fun _=>⟨_,rfl⟩)) Zn)) (Ab (Ax Ap) (by simp))) (by simp))))))))) (by simp)) ?_
  rfl
theorem bG:(aE (stC 6 3)).names.lookup ("B_foreign" : Str)=some NameKind.local:=by kernel_rfl
theorem aO:(aE (stC 6 3)).names.lookup ("EsperantoStemmer" : Str)=some NameKind.globalImplicit:=by kernel_rfl
theorem aB:(aE (stC 6 3)).names.lookup ("among_var" : Str)=some NameKind.local:=by kernel_rfl
theorem n6_3_lab0:(aE (stC 6 3)).names.lookup ("lab0" : Str)=some NameKind.globalImplicit:=by kernel_rfl
theorem aF:(aE (stC 6 3)).names.lookup ("self" : Str)=some NameKind.local:=by kernel_rfl
theorem cC:(aE (stC 6 3)).names.lookup ("v_1" : Str)=some NameKind.local:=by kernel_rfl
theorem dN:(aE (stC 6 4)).names.lookup ("EsperantoStemmer" : Str)=some NameKind.globalImplicit:=by kernel_rfl
theorem aN:(aE (stC 6 4)).names.lookup ("self" : Str)=some NameKind.local:=by kernel_rfl
theorem sl_drop {cur:T} {n:Nat} (h:n≤cur.length):sl cur n cur.length=cur.drop n:=by
  unfold sl
  rw [show ((n:Int)).toNat=n from rfl,List.take_of_length_le]
  rw [List.length_drop]; lia
noncomputable def EQF (y:T) (cur:T) (n:Nat) (b:Bool) (c:Nat):Prop:=∀ {d:Nat} {x dx:Addr} {bra ket:Int},
  CallOK (d+1) 119 [.self x,.str y] (.some (x,dx,FF cur n cur.length 0 bra ket)) (.bool b) (.some (x,dx,FF cur c cur.length 0 bra ket))
theorem eqf_yes {y cur:T} {n:Nat} (h:n≤cur.length) (he:y <+: cur.drop n):EQF y cur n true (n+y.length):=fun {d x dx bra ket}=>by
  have h1:=eqs_yes (d:=d) (x:=x) (dx:=dx) (c:=n) (lm:=cur.length) (lb:=0) (bra:=bra) (ket:=ket) (cur:=cur) (y:=y) (by lia) (by rw [sl_drop h]; exact decide_eq_true (List.prefix_iff_eq_take.mp he).symm)
  exact h1
theorem eqf_no {y cur:T} {n:Nat} (h:n≤cur.length) (he:¬ y <+: cur.drop n):EQF y cur n false n:=fun {d x dx bra ket} =>
  eqs_no (by lia) (by rw [sl_drop h]; exact decide_eq_false fun q=>he (List.prefix_iff_eq_take.mpr q.symm))
noncomputable def FAF (t:List (T×Int×Int)) (cur:T) (c:Nat) (q:Int) (c':Nat):Prop:=∀ {d:Nat} {x dx:Addr} {bra ket:Int},
  CallOK (d+1) 133 [.self x,.tab t] (.some (x,dx,FF cur c cur.length 0 bra ket)) (.int q) (.some (x,dx,FF cur c' cur.length 0 bra ket))
theorem eQ {d:Nat} {x dx:Addr} {dn w y r:T} (hcl:(dn++(w++r)).length≤60000) (hy:y.length≤100):CallOK (d+2) 154 [.self x,.str y] (.some (x,dx,FF (dn++(w++r)) ((dn.length+w.length:Nat):Int) (dn++(w++r)).length 0 dn.length ((dn.length+w.length:Nat):Int))) .none
    (.some (x,dx,FF ((dn++y)++r) ((dn++y).length:Nat) ((dn++y)++r).length 0 dn.length (dn.length+(y.length:Int)))):=by
  have hlim:lim=65536:=rfl
  have hL:(dn++(w++r)).length=dn.length+(w.length+r.length):=by simp
  have e1:sl (dn++(w++r)) 0 (dn.length:Int)=dn:=by rw [sl0 (by lia)]; simp
  have e2:sl (dn++(w++r)) ((dn.length+w.length:Nat):Int) (dn++(w++r)).length=r:=by
    rw [sl_drop (by lia),← List.append_assoc,List.drop_left' (by simp)]
  have h:=slfrom (d:=d) (x:=x) (dx:=dx) (cur:=dn++(w++r)) (y:=y) (c:=((dn.length+w.length:Nat):Int)) (lb:=0) (bra:=dn.length) (ket:=((dn.length+w.length:Nat):Int)) (lm:=(dn++(w++r)).length) (by lia) (by rw [e1,List.length_append]; lia)
    (by rw [e1,e2,List.length_append,List.length_append]; lia)
  have e3:rcur (dn++(w++r)) (dn.length:Int) ((dn.length+w.length:Nat):Int) y=(dn++y)++r:=by unfold rcur; rw [e1,e2]
  have e4:rcc ((dn.length+w.length:Nat):Int) (dn.length:Int) ((dn.length+w.length:Nat):Int) y=((dn++y).length:Nat):=by
    unfold rcc
    rw [if_pos (Int.le_refl _),List.length_append]; lia
  have e5:((dn++(w++r)).length:Int)+((y.length:Int) - (((dn.length+w.length:Nat):Int) - (dn.length:Int)))=(((dn++y)++r).length:Nat):=by
    rw [hL,List.length_append,List.length_append]; lia
  rw [e3,e4,e5] at h
  exact h
theorem from_any {d:Nat} {x dx:Addr} {cur w y r:T} {c:Int} (he:cur=w++r) (hcl:cur.length≤60000) (hy:y.length≤100):CallOK (d+2) 154 [.self x,.str y] (.some (x,dx,FF cur c cur.length 0 0 w.length)) .none
    (.some (x,dx,FF (y++r) (rcc c 0 w.length y) (y++r).length 0 0 (0+(y.length:Int)))):=by
  subst he
  have hlim:lim=65536:=rfl
  have hL:(w++r).length=w.length+r.length:=by simp
  have e1:sl (w++r) 0 (0:Int)=[]:=by unfold sl; simp
  have e2:sl (w++r) (w.length:Int) (w++r).length=r:=by
    rw [sl_drop (by lia),List.drop_left' rfl]
  have h:=slfrom (d:=d) (x:=x) (dx:=dx) (cur:=w++r) (y:=y) (c:=c) (lb:=0) (bra:=0) (ket:=w.length) (lm:=(w++r).length) (by lia) (by rw [e1,List.nil_append]; lia)
    (by rw [e1,e2,List.nil_append,List.length_append]; lia)
  have e3:rcur (w++r) (0:Int) (w.length:Int) y=y++r:=by unfold rcur; rw [e1,e2,List.nil_append]
  have e5:((w++r).length:Int)+((y.length:Int) - ((w.length:Int) - 0))=((y++r).length:Nat):=by
    rw [hL,List.length_append]; lia
  rw [e3,e5] at h
  exact h
noncomputable def PF (fa:Addr) (cur:T) (b:Bool) (cur':T):Prop:=∀ bra ket:Int,∃ c' bra' ket':Int,∀ {d:Nat} {x dx:Addr},
  CallOK (d+4) fa [.self x] (.some (x,dx,FF cur 0 cur.length 0 bra ket)) (.bool b) (.some (x,dx,FF cur' c' cur'.length 0 bra' ket'))
theorem ini_0 {cur:T} (hcl:cur.length≤60000) (h:cur.length=0):PF 245 cur false cur:=fun bra ket=>by
  refine ⟨0,0,ket,fun {d x dx}=>?_⟩
  refine' Au bH rfl (.inl rfl) (Aa (Bb (Al (by rfl) aN) (by rfl) aN Zn rfl) (Ab (Ak (Tst.or_t (Ac (Al (by rfl) aN) (At (by rfl) aN) (bY (by lia)))) (Ab (Ax Ap) (by simp))) (by simp))) ?_
  rfl
theorem ini_1 {cur:T} {ch:Nat} (hcl:cur.length≤60000) (h:cur[0]?=some ch) (h2:ch≠39):PF 245 cur false cur:=fun bra ket=>by
  have h3:=lW h2
  have h4:=(List.getElem?_eq_some_iff.mp h).1
  refine ⟨0,0,ket,fun {d x dx}=>?_⟩
  refine' Au bH rfl (.inl rfl) (Aa (Bb (Al (by rfl) aN) (by rfl) aN Zn rfl) (Ab (Ak (Bo (Ac (Al (by rfl) aN) (At (by rfl) aN) (aI (by lia))) (Tst.or_t (Ac (Bu (Ev.gCur (by rfl) aN) (Al (by rfl) aN) (by lia) h) (Ar (x:=[39]) (by rfl) Zb) (jG (by first | assumption | decide))))) (Ab (Ax Ap) (by simp))) (by simp))) ?_
  rfl
theorem ini_2 {cur:T} (hcl:cur.length≤60000) (h:cur[0]?=some 39) (he:EQF [115,116] cur 1 false 1):PF 245 cur false cur:=fun bra ket=>by
  have h4:=(List.getElem?_eq_some_iff.mp h).1
  refine ⟨(1:Nat),0,(1:Nat),fun {d x dx}=>?_⟩
  refine' Au bH rfl (.inl rfl) (Aa (Bb (Al (by rfl) aN) (by rfl) aN Zn rfl) (Aa (Af (Bo (Ac (Al (by rfl) aN) (At (by rfl) aN) (aI (by lia))) (Bo (Ac (Bu (Ev.gCur (by rfl) aN) (Al (by rfl) aN) (by lia) h) (Ar (x:=[39]) (by rfl) Zb) (gR (by first | assumption | decide))) Ci)) Ad) (Aa (Ex.aCAdd (v':=(1:Nat)) Ae (by rfl) aN (by lia)) (Aa (Bl (Al (by rfl) aN) (by rfl) aN Zn rfl) (Ab (Ak (Bc (Ai (Av (Zm aN) (by rfl) (by rfl) m_eq_s (Ah (Ar (x:=[115,116]) (by rfl) Zb) Aq) he (fun _=>⟨_,rfl⟩)) Zn)) (Ab (Ax Ap) (by simp))) (by simp)))))) ?_
  rfl
theorem ini_3 {cur:T} {c1:Nat} {q:Int} (hcl:cur.length≤60000) (h:cur[0]?=some 39) (he:EQF [115,116] cur 1 true 3) (hf:FAF A1 cur 3 q c1) (hq:q=0):PF 245 cur false cur:=fun bra ket=>by
  have h4:=(List.getElem?_eq_some_iff.mp h).1
  refine ⟨c1,0,(1:Nat),fun {d x dx}=>?_⟩
  refine' Au bH rfl (.inl rfl) (Aa (Bb (Al (by rfl) aN) (by rfl) aN Zn rfl) (Aa (Af (Bo (Ac (Al (by rfl) aN) (At (by rfl) aN) (aI (by lia))) (Bo (Ac (Bu (Ev.gCur (by rfl) aN) (Al (by rfl) aN) (by lia) h) (Ar (x:=[39]) (by rfl) Zb) (gR (by first | assumption | decide))) Ci)) Ad) (Aa (Ex.aCAdd (v':=(1:Nat)) Ae (by rfl) aN (by lia)) (Aa (Bl (Al (by rfl) aN) (by rfl) aN Zn rfl) (Aa (Af (Bh (Ai (Av (Zm aN) (by rfl) (by rfl) m_eq_s (Ah (Ar (x:=[115,116]) (by rfl) Zb) Aq) he (fun _=>⟨_,rfl⟩)) Zn)) Ad) (Ab (Ak (Ac (Av (Zm aN) (by rfl) (by rfl) aX (Ah (Ev.a1 dN) Aq) hf (fun _=>⟨_,rfl⟩)) Ae (bY (by lia))) (Ab (Ax Ap) (by simp))) (by simp))))))) ?_
  rfl
theorem ini_4 {cur:T} {c1:Nat} {q:Int} (hcl:cur.length≤60000) (h:cur[0]?=some 39) (he:EQF [115,116] cur 1 true 3) (hf:FAF A1 cur 3 q c1) (hq:q≠0) (hc:c1 < cur.length):PF 245 cur false cur:=fun bra ket=>by
  have h4:=(List.getElem?_eq_some_iff.mp h).1
  refine ⟨c1,0,(1:Nat),fun {d x dx}=>?_⟩
  refine' Au bH rfl (.inl rfl) (Aa (Bb (Al (by rfl) aN) (by rfl) aN Zn rfl) (Aa (Af (Bo (Ac (Al (by rfl) aN) (At (by rfl) aN) (aI (by lia))) (Bo (Ac (Bu (Ev.gCur (by rfl) aN) (Al (by rfl) aN) (by lia) h) (Ar (x:=[39]) (by rfl) Zb) (gR (by first | assumption | decide))) Ci)) Ad) (Aa (Ex.aCAdd (v':=(1:Nat)) Ae (by rfl) aN (by lia)) (Aa (Bl (Al (by rfl) aN) (by rfl) aN Zn rfl) (Aa (Af (Bh (Ai (Av (Zm aN) (by rfl) (by rfl) m_eq_s (Ah (Ar (x:=[115,116]) (by rfl) Zb) Aq) he (fun _=>⟨_,rfl⟩)) Zn)) Ad) (Aa (Af (Ac (Av (Zm aN) (by rfl) (by rfl) aX (Ah (Ev.a1 dN) Aq) hf (fun _=>⟨_,rfl⟩)) Ae (aI (by lia))) Ad) (Ab (Ak (Ac (Al (by rfl) aN) (At (by rfl) aN) (eR (by lia))) (Ab (Ax Ap) (by simp))) (by simp)))))))) ?_
  rfl
theorem ini_5 {cur:T} {c1:Nat} {r:T} {q:Int} (hcl:cur.length≤60000) (h:cur[0]?=some 39) (he:EQF [115,116] cur 1 true 3) (hf:FAF A1 cur 3 q c1) (hq:q≠0) (hc:c1=cur.length) (hr:cur=[39]++r):PF 245 cur true ([101]++r):=fun bra ket=>by
  have h4:=(List.getElem?_eq_some_iff.mp h).1
  refine ⟨rcc c1 0 ([39]:T).length [101],0,0+(([101]:T).length:Int),fun {d x dx}=>?_⟩
  refine' Au bH rfl (.inl rfl) (Aa (Bb (Al (by rfl) aN) (by rfl) aN Zn rfl) (Aa (Af (Bo (Ac (Al (by rfl) aN) (At (by rfl) aN) (aI (by lia))) (Bo (Ac (Bu (Ev.gCur (by rfl) aN) (Al (by rfl) aN) (by lia) h) (Ar (x:=[39]) (by rfl) Zb) (gR (by first | assumption | decide))) Ci)) Ad) (Aa (Ex.aCAdd (v':=(1:Nat)) Ae (by rfl) aN (by lia)) (Aa (Bl (Al (by rfl) aN) (by rfl) aN Zn rfl) (Aa (Af (Bh (Ai (Av (Zm aN) (by rfl) (by rfl) m_eq_s (Ah (Ar (x:=[115,116]) (by rfl) Zb) Aq) he (fun _=>⟨_,rfl⟩)) Zn)) Ad) (Aa (Af (Ac (Av (Zm aN) (by rfl) (by rfl) aX (Ah (Ev.a1 dN) Aq) hf (fun _=>⟨_,rfl⟩)) Ae (aI (by lia))) Ad) (Aa (Af (Ac (Al (by rfl) aN) (At (by rfl) aN) (fQ (by lia))) Ad) (Aa (Bg (Av (Zm aN) (by rfl) (by rfl) bD (Ah (Ar (x:=[101]) (by rfl) Zb) Aq) (from_any hr hcl Zb) (fun _=>⟨_,rfl⟩)) (by rfl) Zn) (Ab (Ax Ap) (by simp)))))))))) ?_
  rfl
noncomputable def CIT (cur:T) (c:Nat) (b:Bool) (cur':T) (c':Nat) (b':Bool):Prop:=∀ bra ket:Int,∃ bra' ket':Int,∀ {d:Nat} {x dx:Addr},
  Exs (d+3) (aE (stC 6 3)) (cU (nthS (aG (stC 6 3)) 1)) ⟨[("self",.self x),("B_foreign",.bool b)],.some (x,dx,FF cur c cur.length 0 bra ket)⟩ .cont ⟨[("self",.self x),("B_foreign",.bool b')],.some (x,dx,FF cur' c' cur'.length 0 bra' ket')⟩
noncomputable def CWH (cur:T) (c:Nat) (b:Bool) (cur':T) (b':Bool):Prop:=∀ bra ket:Int,∃ bra' ket':Int,∀ {d:Nat} {x dx:Addr},
  Whl (d+3) (aE (stC 6 3)) (wTest (nthS (aG (stC 6 3)) 1)) (cU (nthS (aG (stC 6 3)) 1)) ⟨[("self",.self x),("B_foreign",.bool b)],.some (x,dx,FF cur c cur.length 0 bra ket)⟩ .next ⟨[("self",.self x),("B_foreign",.bool b')],.some (x,dx,FF cur' (cur'.length:Int) cur'.length 0 bra' ket')⟩
theorem CWH.step {cur cur' cur₁:T} {c c₁:Nat} {b b₁ b':Bool} (h:CIT cur c b cur₁ c₁ b₁) (h':CWH cur₁ c₁ b₁ cur' b'):CWH cur c b cur' b':=fun bra ket=>by
  obtain ⟨k1,k2,h⟩:=h bra ket
  obtain ⟨k3,k4,h'⟩:=h' k1 k2
  exact ⟨k3,k4,fun {d x dx}=>Whl.step (Ai Ap Zn) h (.inr rfl) h'⟩
theorem can_1 {dn r:T} {b:Bool} (hcl:(dn++([99,120]++r)).length≤60000) (hf:FAF A0 (dn++([99,120]++r)) dn.length 1 (dn.length+([99,120]:T).length:Nat)):CIT (dn++([99,120]++r)) dn.length b (dn++[265]++r) (dn++[265]).length b:=fun bra ket=>by
  refine ⟨dn.length,(dn.length+(([265]:T).length:Int)),fun {d x dx}=>?_⟩
  refine' By _ (Aa (An (v':=dn.length) (loc':=[("self",.self x),("B_foreign",.bool b),("v_1",.int dn.length)]) (Al (by rfl) aF) cC Zn (by first | rfl | lia) (by rfl)) (Ab (Ay (Aa (Bb (Al (by rfl) aF) (by rfl) aF Zn rfl) (Aa (An (v':=1) (loc':=[("self",.self x),("B_foreign",.bool b),("v_1",.int dn.length),("among_var",.int 1)]) (Av (Zm aF) (by rfl) (by rfl) aX (Ah (Ev.a0 aO) Aq) hf (fun _=>⟨_,rfl⟩)) aB Zn (by first | rfl | lia) (by rfl)) (Aa (Bl (Al (by rfl) aF) (by rfl) aF Zn rfl) (Aa (Ak (Ac (Zm aB) Ae (bY (by lia))) (Aa (Bg (Av (Zm aF) (by rfl) (by rfl) bD (Ah (Ar (x:=[265]) (by rfl) Zb) Aq) (eQ (w:=[99,120]) hcl Zb) (fun _=>⟨_,rfl⟩)) (by rfl) Zn) Ad)) (Ab Cj (by simp)))))) (by simp)) (by simp))) (aD rfl (aD rfl aP)) rfl
theorem can_2 {dn r:T} {b:Bool} (hcl:(dn++([103,120]++r)).length≤60000) (hf:FAF A0 (dn++([103,120]++r)) dn.length 2 (dn.length+([103,120]:T).length:Nat)):CIT (dn++([103,120]++r)) dn.length b (dn++[285]++r) (dn++[285]).length b:=fun bra ket=>by
  refine ⟨dn.length,(dn.length+(([285]:T).length:Int)),fun {d x dx}=>?_⟩
  refine' By _ (Aa (An (v':=dn.length) (loc':=[("self",.self x),("B_foreign",.bool b),("v_1",.int dn.length)]) (Al (by rfl) aF) cC Zn (by first | rfl | lia) (by rfl)) (Ab (Ay (Aa (Bb (Al (by rfl) aF) (by rfl) aF Zn rfl) (Aa (An (v':=2) (loc':=[("self",.self x),("B_foreign",.bool b),("v_1",.int dn.length),("among_var",.int 2)]) (Av (Zm aF) (by rfl) (by rfl) aX (Ah (Ev.a0 aO) Aq) hf (fun _=>⟨_,rfl⟩)) aB Zn (by first | rfl | lia) (by rfl)) (Aa (Bl (Al (by rfl) aF) (by rfl) aF Zn rfl) (Aa (Af (Ac (Zm aB) Ae (aI (by lia))) (Aa (Ak (Ac (Zm aB) Ae (bY (by lia))) (Aa (Bg (Av (Zm aF) (by rfl) (by rfl) bD (Ah (Ar (x:=[285]) (by rfl) Zb) Aq) (eQ (w:=[103,120]) hcl Zb) (fun _=>⟨_,rfl⟩)) (by rfl) Zn) Ad)) Ad)) (Ab Cj (by simp)))))) (by simp)) (by simp))) (aD rfl (aD rfl aP)) rfl
theorem can_3 {dn r:T} {b:Bool} (hcl:(dn++([104,120]++r)).length≤60000) (hf:FAF A0 (dn++([104,120]++r)) dn.length 3 (dn.length+([104,120]:T).length:Nat)):CIT (dn++([104,120]++r)) dn.length b (dn++[293]++r) (dn++[293]).length b:=fun bra ket=>by
  refine ⟨dn.length,(dn.length+(([293]:T).length:Int)),fun {d x dx}=>?_⟩
  refine' By _ (Aa (An (v':=dn.length) (loc':=[("self",.self x),("B_foreign",.bool b),("v_1",.int dn.length)]) (Al (by rfl) aF) cC Zn (by first | rfl | lia) (by rfl)) (Ab (Ay (Aa (Bb (Al (by rfl) aF) (by rfl) aF Zn rfl) (Aa (An (v':=3) (loc':=[("self",.self x),("B_foreign",.bool b),("v_1",.int dn.length),("among_var",.int 3)]) (Av (Zm aF) (by rfl) (by rfl) aX (Ah (Ev.a0 aO) Aq) hf (fun _=>⟨_,rfl⟩)) aB Zn (by first | rfl | lia) (by rfl)) (Aa (Bl (Al (by rfl) aF) (by rfl) aF Zn rfl) (Aa (Af (Ac (Zm aB) Ae (aI (by lia))) (Aa (Af (Ac (Zm aB) Ae (aI (by lia))) (Aa (Ak (Ac (Zm aB) Ae (bY (by lia))) (Aa (Bg (Av (Zm aF) (by rfl) (by rfl) bD (Ah (Ar (x:=[293]) (by rfl) Zb) Aq) (eQ (w:=[104,120]) hcl Zb) (fun _=>⟨_,rfl⟩)) (by rfl) Zn) Ad)) Ad)) Ad)) (Ab Cj (by simp)))))) (by simp)) (by simp))) (aD rfl (aD rfl aP)) rfl
theorem can_4 {dn r:T} {b:Bool} (hcl:(dn++([106,120]++r)).length≤60000) (hf:FAF A0 (dn++([106,120]++r)) dn.length 4 (dn.length+([106,120]:T).length:Nat)):CIT (dn++([106,120]++r)) dn.length b (dn++[309]++r) (dn++[309]).length b:=fun bra ket=>by
  refine ⟨dn.length,(dn.length+(([309]:T).length:Int)),fun {d x dx}=>?_⟩
  refine' By _ (Aa (An (v':=dn.length) (loc':=[("self",.self x),("B_foreign",.bool b),("v_1",.int dn.length)]) (Al (by rfl) aF) cC Zn (by first | rfl | lia) (by rfl)) (Ab (Ay (Aa (Bb (Al (by rfl) aF) (by rfl) aF Zn rfl) (Aa (An (v':=4) (loc':=[("self",.self x),("B_foreign",.bool b),("v_1",.int dn.length),("among_var",.int 4)]) (Av (Zm aF) (by rfl) (by rfl) aX (Ah (Ev.a0 aO) Aq) hf (fun _=>⟨_,rfl⟩)) aB Zn (by first | rfl | lia) (by rfl)) (Aa (Bl (Al (by rfl) aF) (by rfl) aF Zn rfl) (Aa (Af (Ac (Zm aB) Ae (aI (by lia))) (Aa (Af (Ac (Zm aB) Ae (aI (by lia))) (Aa (Af (Ac (Zm aB) Ae (aI (by lia))) (Aa (Ak (Ac (Zm aB) Ae (bY (by lia))) (Aa (Bg (Av (Zm aF) (by rfl) (by rfl) bD (Ah (Ar (x:=[309]) (by rfl) Zb) Aq) (eQ (w:=[106,120]) hcl Zb) (fun _=>⟨_,rfl⟩)) (by rfl) Zn) Ad)) Ad)) Ad)) Ad)) (Ab Cj (by simp)))))) (by simp)) (by simp))) (aD rfl (aD rfl aP)) rfl
theorem can_5 {dn r:T} {b:Bool} (hcl:(dn++([115,120]++r)).length≤60000) (hf:FAF A0 (dn++([115,120]++r)) dn.length 5 (dn.length+([115,120]:T).length:Nat)):CIT (dn++([115,120]++r)) dn.length b (dn++[349]++r) (dn++[349]).length b:=fun bra ket=>by
  refine ⟨dn.length,(dn.length+(([349]:T).length:Int)),fun {d x dx}=>?_⟩
  refine' By _ (Aa (An (v':=dn.length) (loc':=[("self",.self x),("B_foreign",.bool b),("v_1",.int dn.length)]) (Al (by rfl) aF) cC Zn (by first | rfl | lia) (by rfl)) (Ab (Ay (Aa (Bb (Al (by rfl) aF) (by rfl) aF Zn rfl) (Aa (An (v':=5) (loc':=[("self",.self x),("B_foreign",.bool b),("v_1",.int dn.length),("among_var",.int 5)]) (Av (Zm aF) (by rfl) (by rfl) aX (Ah (Ev.a0 aO) Aq) hf (fun _=>⟨_,rfl⟩)) aB Zn (by first | rfl | lia) (by rfl)) (Aa (Bl (Al (by rfl) aF) (by rfl) aF Zn rfl) (Aa (Af (Ac (Zm aB) Ae (aI (by lia))) (Aa (Af (Ac (Zm aB) Ae (aI (by lia))) (Aa (Af (Ac (Zm aB) Ae (aI (by lia))) (Aa (Af (Ac (Zm aB) Ae (aI (by lia))) (Aa (Ak (Ac (Zm aB) Ae (bY (by lia))) (Aa (Bg (Av (Zm aF) (by rfl) (by rfl) bD (Ah (Ar (x:=[349]) (by rfl) Zb) Aq) (eQ (w:=[115,120]) hcl Zb) (fun _=>⟨_,rfl⟩)) (by rfl) Zn) Ad)) Ad)) Ad)) Ad)) Ad)) (Ab Cj (by simp)))))) (by simp)) (by simp))) (aD rfl (aD rfl aP)) rfl
theorem can_6 {dn r:T} {b:Bool} (hcl:(dn++([117,120]++r)).length≤60000) (hf:FAF A0 (dn++([117,120]++r)) dn.length 6 (dn.length+([117,120]:T).length:Nat)):CIT (dn++([117,120]++r)) dn.length b (dn++[365]++r) (dn++[365]).length b:=fun bra ket=>by
  refine ⟨dn.length,(dn.length+(([365]:T).length:Int)),fun {d x dx}=>?_⟩
  refine' By _ (Aa (An (v':=dn.length) (loc':=[("self",.self x),("B_foreign",.bool b),("v_1",.int dn.length)]) (Al (by rfl) aF) cC Zn (by first | rfl | lia) (by rfl)) (Ab (Ay (Aa (Bb (Al (by rfl) aF) (by rfl) aF Zn rfl) (Aa (An (v':=6) (loc':=[("self",.self x),("B_foreign",.bool b),("v_1",.int dn.length),("among_var",.int 6)]) (Av (Zm aF) (by rfl) (by rfl) aX (Ah (Ev.a0 aO) Aq) hf (fun _=>⟨_,rfl⟩)) aB Zn (by first | rfl | lia) (by rfl)) (Aa (Bl (Al (by rfl) aF) (by rfl) aF Zn rfl) (Aa (Af (Ac (Zm aB) Ae (aI (by lia))) (Aa (Af (Ac (Zm aB) Ae (aI (by lia))) (Aa (Af (Ac (Zm aB) Ae (aI (by lia))) (Aa (Af (Ac (Zm aB) Ae (aI (by lia))) (Aa (Af (Ac (Zm aB) Ae (aI (by lia))) (Aa (Ak (Ac (Zm aB) Ae (bY (by lia))) (Aa (Bg (Av (Zm aF) (by rfl) (by rfl) bD (Ah (Ar (x:=[365]) (by rfl) Zb) Aq) (eQ (w:=[117,120]) hcl Zb) (fun _=>⟨_,rfl⟩)) (by rfl) Zn) Ad)) Ad)) Ad)) Ad)) Ad)) Ad)) (Ab Cj (by simp)))))) (by simp)) (by simp))) (aD rfl (aD rfl aP)) rfl
theorem can_7 {dn r:T} {b:Bool} (hcl:(dn++([225]++r)).length≤60000) (hf:FAF A0 (dn++([225]++r)) dn.length 7 (dn.length+([225]:T).length:Nat)):CIT (dn++([225]++r)) dn.length b (dn++[97]++r) (dn++[97]).length true:=fun bra ket=>by
  refine ⟨dn.length,(dn.length+(([97]:T).length:Int)),fun {d x dx}=>?_⟩
  refine' By _ (Aa (An (v':=dn.length) (loc':=[("self",.self x),("B_foreign",.bool b),("v_1",.int dn.length)]) (Al (by rfl) aF) cC Zn (by first | rfl | lia) (by rfl)) (Ab (Ay (Aa (Bb (Al (by rfl) aF) (by rfl) aF Zn rfl) (Aa (An (v':=7) (loc':=[("self",.self x),("B_foreign",.bool b),("v_1",.int dn.length),("among_var",.int 7)]) (Av (Zm aF) (by rfl) (by rfl) aX (Ah (Ev.a0 aO) Aq) hf (fun _=>⟨_,rfl⟩)) aB Zn (by first | rfl | lia) (by rfl)) (Aa (Bl (Al (by rfl) aF) (by rfl) aF Zn rfl) (Aa (Af (Ac (Zm aB) Ae (aI (by lia))) (Aa (Af (Ac (Zm aB) Ae (aI (by lia))) (Aa (Af (Ac (Zm aB) Ae (aI (by lia))) (Aa (Af (Ac (Zm aB) Ae (aI (by lia))) (Aa (Af (Ac (Zm aB) Ae (aI (by lia))) (Aa (Af (Ac (Zm aB) Ae (aI (by lia))) (Aa (Ak (Ac (Zm aB) Ae (bY (by lia))) (Aa (Bg (Av (Zm aF) (by rfl) (by rfl) bD (Ah (Ar (x:=[97]) (by rfl) Zb) Aq) (eQ (w:=[225]) hcl Zb) (fun _=>⟨_,rfl⟩)) (by rfl) Zn) (Aa (Bd (loc':=[("self",.self x),("B_foreign",.bool true),("v_1",.int dn.length),("among_var",.int 7)]) Ap bG Zn (by rfl)) Ad))) Ad)) Ad)) Ad)) Ad)) Ad)) Ad)) (Ab Cj (by simp)))))) (by simp)) (by simp))) (aD rfl (aD rfl aP)) rfl
theorem can_8 {dn r:T} {b:Bool} (hcl:(dn++([233]++r)).length≤60000) (hf:FAF A0 (dn++([233]++r)) dn.length 8 (dn.length+([233]:T).length:Nat)):CIT (dn++([233]++r)) dn.length b (dn++[101]++r) (dn++[101]).length true:=fun bra ket=>by
  refine ⟨dn.length,(dn.length+(([101]:T).length:Int)),fun {d x dx}=>?_⟩
  refine' By _ (Aa (An (v':=dn.length) (loc':=[("self",.self x),("B_foreign",.bool b),("v_1",.int dn.length)]) (Al (by rfl) aF) cC Zn (by first | rfl | lia) (by rfl)) (Ab (Ay (Aa (Bb (Al (by rfl) aF) (by rfl) aF Zn rfl) (Aa (An (v':=8) (loc':=[("self",.self x),("B_foreign",.bool b),("v_1",.int dn.length),("among_var",.int 8)]) (Av (Zm aF) (by rfl) (by rfl) aX (Ah (Ev.a0 aO) Aq) hf (fun _=>⟨_,rfl⟩)) aB Zn (by first | rfl | lia) (by rfl)) (Aa (Bl (Al (by rfl) aF) (by rfl) aF Zn rfl) (Aa (Af (Ac (Zm aB) Ae (aI (by lia))) (Aa (Af (Ac (Zm aB) Ae (aI (by lia))) (Aa (Af (Ac (Zm aB) Ae (aI (by lia))) (Aa (Af (Ac (Zm aB) Ae (aI (by lia))) (Aa (Af (Ac (Zm aB) Ae (aI (by lia))) (Aa (Af (Ac (Zm aB) Ae (aI (by lia))) (Aa (Af (Ac (Zm aB) Ae (aI (by lia))) (Aa (Ak (Ac (Zm aB) Ae (bY (by lia))) (Aa (Bg (Av (Zm aF) (by rfl) (by rfl) bD (Ah (Ar (x:=[101]) (by rfl) Zb) Aq) (eQ (w:=[233]) hcl Zb) (fun _=>⟨_,rfl⟩)) (by rfl) Zn) (Aa (Bd (loc':=[("self",.self x),("B_foreign",.bool true),("v_1",.int dn.length),("among_var",.int 8)]) Ap bG Zn (by rfl)) Ad))) Ad)) Ad)) Ad)) Ad)) Ad)) Ad)) Ad)) (Ab Cj (by simp)))))) (by simp)) (by simp))) (aD rfl (aD rfl aP)) rfl
theorem can_9 {dn r:T} {b:Bool} (hcl:(dn++([237]++r)).length≤60000) (hf:FAF A0 (dn++([237]++r)) dn.length 9 (dn.length+([237]:T).length:Nat)):CIT (dn++([237]++r)) dn.length b (dn++[105]++r) (dn++[105]).length true:=fun bra ket=>by
  refine ⟨dn.length,(dn.length+(([105]:T).length:Int)),fun {d x dx}=>?_⟩
  refine' By _ (Aa (An (v':=dn.length) (loc':=[("self",.self x),("B_foreign",.bool b),("v_1",.int dn.length)]) (Al (by rfl) aF) cC Zn (by first | rfl | lia) (by rfl)) (Ab (Ay (Aa (Bb (Al (by rfl) aF) (by rfl) aF Zn rfl) (Aa (An (v':=9) (loc':=[("self",.self x),("B_foreign",.bool b),("v_1",.int dn.length),("among_var",.int 9)]) (Av (Zm aF) (by rfl) (by rfl) aX (Ah (Ev.a0 aO) Aq) hf (fun _=>⟨_,rfl⟩)) aB Zn (by first | rfl | lia) (by rfl)) (Aa (Bl (Al (by rfl) aF) (by rfl) aF Zn rfl) (Aa (Af (Ac (Zm aB) Ae (aI (by lia))) (Aa (Af (Ac (Zm aB) Ae (aI (by lia))) (Aa (Af (Ac (Zm aB) Ae (aI (by lia))) (Aa (Af (Ac (Zm aB) Ae (aI (by lia))) (Aa (Af (Ac (Zm aB) Ae (aI (by lia))) (Aa (Af (Ac (Zm aB) Ae (aI (by lia))) (Aa (Af (Ac (Zm aB) Ae (aI (by lia))) (Aa (Af (Ac (Zm aB) Ae (aI (by lia))) (Aa (Ak (Ac (Zm aB) Ae (bY (by lia))) (Aa (Bg (Av (Zm aF) (by rfl) (by rfl) bD (Ah (Ar (x:=[105]) (by rfl) Zb) Aq) (eQ (w:=[237]) hcl Zb) (fun _=>⟨_,rfl⟩)) (by rfl) Zn) (Aa (Bd (loc':=[("self",.self x),("B_foreign",.bool true),("v_1",.int dn.length),("among_var",.int 9)]) Ap bG Zn (by rfl)) Ad))) Ad)) Ad)) Ad)) Ad)) Ad)) Ad)) Ad)) Ad)) (Ab Cj (by simp)))))) (by simp)) (by simp))) (aD rfl (aD rfl aP)) rfl
theorem can_10 {dn r:T} {b:Bool} (hcl:(dn++([243]++r)).length≤60000) (hf:FAF A0 (dn++([243]++r)) dn.length 10 (dn.length+([243]:T).length:Nat)):CIT (dn++([243]++r)) dn.length b (dn++[111]++r) (dn++[111]).length true:=fun bra ket=>by
  refine ⟨dn.length,(dn.length+(([111]:T).length:Int)),fun {d x dx}=>?_⟩
  refine' By _ (Aa (An (v':=dn.length) (loc':=[("self",.self x),("B_foreign",.bool b),("v_1",.int dn.length)]) (Al (by rfl) aF) cC Zn (by first | rfl | lia) (by rfl)) (Ab (Ay (Aa (Bb (Al (by rfl) aF) (by rfl) aF Zn rfl) (Aa (An (v':=10) (loc':=[("self",.self x),("B_foreign",.bool b),("v_1",.int dn.length),("among_var",.int 10)]) (Av (Zm aF) (by rfl) (by rfl) aX (Ah (Ev.a0 aO) Aq) hf (fun _=>⟨_,rfl⟩)) aB Zn (by first | rfl | lia) (by rfl)) (Aa (Bl (Al (by rfl) aF) (by rfl) aF Zn rfl) (Aa (Af (Ac (Zm aB) Ae (aI (by lia))) (Aa (Af (Ac (Zm aB) Ae (aI (by lia))) (Aa (Af (Ac (Zm aB) Ae (aI (by lia))) (Aa (Af (Ac (Zm aB) Ae (aI (by lia))) (Aa (Af (Ac (Zm aB) Ae (aI (by lia))) (Aa (Af (Ac (Zm aB) Ae (aI (by lia))) (Aa (Af (Ac (Zm aB) Ae (aI (by lia))) (Aa (Af (Ac (Zm aB) Ae (aI (by lia))) (Aa (Af (Ac (Zm aB) Ae (aI (by lia))) (Aa (Ak (Ac (Zm aB) Ae (bY (by lia))) (Aa (Bg (Av (Zm aF) (by rfl) (by rfl) bD (Ah (Ar (x:=[111]) (by rfl) Zb) Aq) (eQ (w:=[243]) hcl Zb) (fun _=>⟨_,rfl⟩)) (by rfl) Zn) (Aa (Bd (loc':=[("self",.self x),("B_foreign",.bool true),("v_1",.int dn.length),("among_var",.int 10)]) Ap bG Zn (by rfl)) Ad))) Ad)) Ad)) Ad)) Ad)) Ad)) Ad)) Ad)) Ad)) Ad)) (Ab Cj (by simp)))))) (by simp)) (by simp))) (aD rfl (aD rfl aP)) rfl
theorem can_11 {dn r:T} {b:Bool} (hcl:(dn++([250]++r)).length≤60000) (hf:FAF A0 (dn++([250]++r)) dn.length 11 (dn.length+([250]:T).length:Nat)):CIT (dn++([250]++r)) dn.length b (dn++[117]++r) (dn++[117]).length true:=fun bra ket=>by
  refine ⟨dn.length,(dn.length+(([117]:T).length:Int)),fun {d x dx}=>?_⟩
  refine' By _ (Aa (An (v':=dn.length) (loc':=[("self",.self x),("B_foreign",.bool b),("v_1",.int dn.length)]) (Al (by rfl) aF) cC Zn (by first | rfl | lia) (by rfl)) (Ab (Ay (Aa (Bb (Al (by rfl) aF) (by rfl) aF Zn rfl) (Aa (An (v':=11) (loc':=[("self",.self x),("B_foreign",.bool b),("v_1",.int dn.length),("among_var",.int 11)]) (Av (Zm aF) (by rfl) (by rfl) aX (Ah (Ev.a0 aO) Aq) hf (fun _=>⟨_,rfl⟩)) aB Zn (by first | rfl | lia) (by rfl)) (Aa (Bl (Al (by rfl) aF) (by rfl) aF Zn rfl) (Aa (Af (Ac (Zm aB) Ae (aI (by lia))) (Aa (Af (Ac (Zm aB) Ae (aI (by lia))) (Aa (Af (Ac (Zm aB) Ae (aI (by lia))) (Aa (Af (Ac (Zm aB) Ae (aI (by lia))) (Aa (Af (Ac (Zm aB) Ae (aI (by lia))) (Aa (Af (Ac (Zm aB) Ae (aI (by lia))) (Aa (Af (Ac (Zm aB) Ae (aI (by lia))) (Aa (Af (Ac (Zm aB) Ae (aI (by lia))) (Aa (Af (Ac (Zm aB) Ae (aI (by lia))) (Aa (Af (Ac (Zm aB) Ae (aI (by lia))) (Aa (Ak (Ac (Zm aB) Ae (bY (by lia))) (Aa (Bg (Av (Zm aF) (by rfl) (by rfl) bD (Ah (Ar (x:=[117]) (by rfl) Zb) Aq) (eQ (w:=[250]) hcl Zb) (fun _=>⟨_,rfl⟩)) (by rfl) Zn) (Aa (Bd (loc':=[("self",.self x),("B_foreign",.bool true),("v_1",.int dn.length),("among_var",.int 11)]) Ap bG Zn (by rfl)) Ad))) Ad)) Ad)) Ad)) Ad)) Ad)) Ad)) Ad)) Ad)) Ad)) Ad)) (Ab Cj (by simp)))))) (by simp)) (by simp))) (aD rfl (aD rfl aP)) rfl
theorem can_12_q {dn r:T} {b:Bool} (hcl:(dn++([113]++r)).length≤60000) (hf:FAF A0 (dn++([113]++r)) dn.length 12 (dn.length+([113]:T).length:Nat)):CIT (dn++([113]++r)) dn.length b (dn++[113]++r) (dn++[113]).length true:=by
  rw [List.append_assoc,List.length_append]
  intro bra ket
  refine ⟨dn.length,(dn.length+([113]:T).length:Nat),fun {d x dx}=>?_⟩
  refine' By _ (Aa (An (v':=dn.length) (loc':=[("self",.self x),("B_foreign",.bool b),("v_1",.int dn.length)]) (Al (by rfl) aF) cC Zn (by first | rfl | lia) (by rfl)) (Ab (Ay (Aa (Bb (Al (by rfl) aF) (by rfl) aF Zn rfl) (Aa (An (v':=12) (loc':=[("self",.self x),("B_foreign",.bool b),("v_1",.int dn.length),("among_var",.int 12)]) (Av (Zm aF) (by rfl) (by rfl) aX (Ah (Ev.a0 aO) Aq) hf (fun _=>⟨_,rfl⟩)) aB Zn (by first | rfl | lia) (by rfl)) (Aa (Bl (Al (by rfl) aF) (by rfl) aF Zn rfl) (Aa (Af (Ac (Zm aB) Ae (aI (by lia))) (Aa (Af (Ac (Zm aB) Ae (aI (by lia))) (Aa (Af (Ac (Zm aB) Ae (aI (by lia))) (Aa (Af (Ac (Zm aB) Ae (aI (by lia))) (Aa (Af (Ac (Zm aB) Ae (aI (by lia))) (Aa (Af (Ac (Zm aB) Ae (aI (by lia))) (Aa (Af (Ac (Zm aB) Ae (aI (by lia))) (Aa (Af (Ac (Zm aB) Ae (aI (by lia))) (Aa (Af (Ac (Zm aB) Ae (aI (by lia))) (Aa (Af (Ac (Zm aB) Ae (aI (by lia))) (Aa (Af (Ac (Zm aB) Ae (aI (by lia))) (Aa (Ak (Ac (Zm aB) Ae (bY (by lia))) (Aa (Bd (loc':=[("self",.self x),("B_foreign",.bool true),("v_1",.int dn.length),("among_var",.int 12)]) Ap bG Zn (by rfl)) Ad)) Ad)) Ad)) Ad)) Ad)) Ad)) Ad)) Ad)) Ad)) Ad)) Ad)) Ad)) (Ab Cj (by simp)))))) (by simp)) (by simp))) (aD rfl (aD rfl aP)) rfl
theorem can_12_w {dn r:T} {b:Bool} (hcl:(dn++([119]++r)).length≤60000) (hf:FAF A0 (dn++([119]++r)) dn.length 12 (dn.length+([119]:T).length:Nat)):CIT (dn++([119]++r)) dn.length b (dn++[119]++r) (dn++[119]).length true:=by
  rw [List.append_assoc,List.length_append]
  intro bra ket
  refine ⟨dn.length,(dn.length+([119]:T).length:Nat),fun {d x dx}=>?_⟩
  refine' By _ (Aa (An (v':=dn.length) (loc':=[("self",.self x),("B_foreign",.bool b),("v_1",.int dn.length)]) (Al (by rfl) aF) cC Zn (by first | rfl | lia) (by rfl)) (Ab (Ay (Aa (Bb (Al (by rfl) aF) (by rfl) aF Zn rfl) (Aa (An (v':=12) (loc':=[("self",.self x),("B_foreign",.bool b),("v_1",.int dn.length),("among_var",.int 12)]) (Av (Zm aF) (by rfl) (by rfl) aX (Ah (Ev.a0 aO) Aq) hf (fun _=>⟨_,rfl⟩)) aB Zn (by first | rfl | lia) (by rfl)) (Aa (Bl (Al (by rfl) aF) (by rfl) aF Zn rfl) (Aa (Af (Ac (Zm aB) Ae (aI (by lia))) (Aa (Af (Ac (Zm aB) Ae (aI (by lia))) (Aa (Af (Ac (Zm aB) Ae (aI (by lia))) (Aa (Af (Ac (Zm aB) Ae (aI (by lia))) (Aa (Af (Ac (Zm aB) Ae (aI (by lia))) (Aa (Af (Ac (Zm aB) Ae (aI (by lia))) (Aa (Af (Ac (Zm aB) Ae (aI (by lia))) (Aa (Af (Ac (Zm aB) Ae (aI (by lia))) (Aa (Af (Ac (Zm aB) Ae (aI (by lia))) (Aa (Af (Ac (Zm aB) Ae (aI (by lia))) (Aa (Af (Ac (Zm aB) Ae (aI (by lia))) (Aa (Ak (Ac (Zm aB) Ae (bY (by lia))) (Aa (Bd (loc':=[("self",.self x),("B_foreign",.bool true),("v_1",.int dn.length),("among_var",.int 12)]) Ap bG Zn (by rfl)) Ad)) Ad)) Ad)) Ad)) Ad)) Ad)) Ad)) Ad)) Ad)) Ad)) Ad)) Ad)) (Ab Cj (by simp)))))) (by simp)) (by simp))) (aD rfl (aD rfl aP)) rfl
theorem can_12_x {dn r:T} {b:Bool} (hcl:(dn++([120]++r)).length≤60000) (hf:FAF A0 (dn++([120]++r)) dn.length 12 (dn.length+([120]:T).length:Nat)):CIT (dn++([120]++r)) dn.length b (dn++[120]++r) (dn++[120]).length true:=by
  rw [List.append_assoc,List.length_append]
  intro bra ket
  refine ⟨dn.length,(dn.length+([120]:T).length:Nat),fun {d x dx}=>?_⟩
  refine' By _ (Aa (An (v':=dn.length) (loc':=[("self",.self x),("B_foreign",.bool b),("v_1",.int dn.length)]) (Al (by rfl) aF) cC Zn (by first | rfl | lia) (by rfl)) (Ab (Ay (Aa (Bb (Al (by rfl) aF) (by rfl) aF Zn rfl) (Aa (An (v':=12) (loc':=[("self",.self x),("B_foreign",.bool b),("v_1",.int dn.length),("among_var",.int 12)]) (Av (Zm aF) (by rfl) (by rfl) aX (Ah (Ev.a0 aO) Aq) hf (fun _=>⟨_,rfl⟩)) aB Zn (by first | rfl | lia) (by rfl)) (Aa (Bl (Al (by rfl) aF) (by rfl) aF Zn rfl) (Aa (Af (Ac (Zm aB) Ae (aI (by lia))) (Aa (Af (Ac (Zm aB) Ae (aI (by lia))) (Aa (Af (Ac (Zm aB) Ae (aI (by lia))) (Aa (Af (Ac (Zm aB) Ae (aI (by lia))) (Aa (Af (Ac (Zm aB) Ae (aI (by lia))) (Aa (Af (Ac (Zm aB) Ae (aI (by lia))) (Aa (Af (Ac (Zm aB) Ae (aI (by lia))) (Aa (Af (Ac (Zm aB) Ae (aI (by lia))) (Aa (Af (Ac (Zm aB) Ae (aI (by lia))) (Aa (Af (Ac (Zm aB) Ae (aI (by lia))) (Aa (Af (Ac (Zm aB) Ae (aI (by lia))) (Aa (Ak (Ac (Zm aB) Ae (bY (by lia))) (Aa (Bd (loc':=[("self",.self x),("B_foreign",.bool true),("v_1",.int dn.length),("among_var",.int 12)]) Ap bG Zn (by rfl)) Ad)) Ad)) Ad)) Ad)) Ad)) Ad)) Ad)) Ad)) Ad)) Ad)) Ad)) Ad)) (Ab Cj (by simp)))))) (by simp)) (by simp))) (aD rfl (aD rfl aP)) rfl
theorem can_12_y {dn r:T} {b:Bool} (hcl:(dn++([121]++r)).length≤60000) (hf:FAF A0 (dn++([121]++r)) dn.length 12 (dn.length+([121]:T).length:Nat)):CIT (dn++([121]++r)) dn.length b (dn++[121]++r) (dn++[121]).length true:=by
  rw [List.append_assoc,List.length_append]
  intro bra ket
  refine ⟨dn.length,(dn.length+([121]:T).length:Nat),fun {d x dx}=>?_⟩
  refine' By _ (Aa (An (v':=dn.length) (loc':=[("self",.self x),("B_foreign",.bool b),("v_1",.int dn.length)]) (Al (by rfl) aF) cC Zn (by first | rfl | lia) (by rfl)) (Ab (Ay (Aa (Bb (Al (by rfl) aF) (by rfl) aF Zn rfl) (Aa (An (v':=12) (loc':=[("self",.self x),("B_foreign",.bool b),("v_1",.int dn.length),("among_var",.int 12)]) (Av (Zm aF) (by rfl) (by rfl) aX (Ah (Ev.a0 aO) Aq) hf (fun _=>⟨_,rfl⟩)) aB Zn (by first | rfl | lia) (by rfl)) (Aa (Bl (Al (by rfl) aF) (by rfl) aF Zn rfl) (Aa (Af (Ac (Zm aB) Ae (aI (by lia))) (Aa (Af (Ac (Zm aB) Ae (aI (by lia))) (Aa (Af (Ac (Zm aB) Ae (aI (by lia))) (Aa (Af (Ac (Zm aB) Ae (aI (by lia))) (Aa (Af (Ac (Zm aB) Ae (aI (by lia))) (Aa (Af (Ac (Zm aB) Ae (aI (by lia))) (Aa (Af (Ac (Zm aB) Ae (aI (by lia))) (Aa (Af (Ac (Zm aB) Ae (aI (by lia))) (Aa (Af (Ac (Zm aB) Ae (aI (by lia))) (Aa (Af (Ac (Zm aB) Ae (aI (by lia))) (Aa (Af (Ac (Zm aB) Ae (aI (by lia))) (Aa (Ak (Ac (Zm aB) Ae (bY (by lia))) (Aa (Bd (loc':=[("self",.self x),("B_foreign",.bool true),("v_1",.int dn.length),("among_var",.int 12)]) Ap bG Zn (by rfl)) Ad)) Ad)) Ad)) Ad)) Ad)) Ad)) Ad)) Ad)) Ad)) Ad)) Ad)) Ad)) (Ab Cj (by simp)))))) (by simp)) (by simp))) (aD rfl (aD rfl aP)) rfl
theorem can_13 {dn r:T} {b:Bool} (hcl:(dn++([45]++r)).length≤60000) (hf:FAF A0 (dn++([45]++r)) dn.length 13 (dn.length+([45]:T).length:Nat)):CIT (dn++([45]++r)) dn.length b (dn++[45]++r) (dn++[45]).length false:=by
  rw [List.append_assoc,List.length_append]
  intro bra ket
  refine ⟨dn.length,(dn.length+([45]:T).length:Nat),fun {d x dx}=>?_⟩
  refine' By _ (Aa (An (v':=dn.length) (loc':=[("self",.self x),("B_foreign",.bool b),("v_1",.int dn.length)]) (Al (by rfl) aF) cC Zn (by first | rfl | lia) (by rfl)) (Ab (Ay (Aa (Bb (Al (by rfl) aF) (by rfl) aF Zn rfl) (Aa (An (v':=13) (loc':=[("self",.self x),("B_foreign",.bool b),("v_1",.int dn.length),("among_var",.int 13)]) (Av (Zm aF) (by rfl) (by rfl) aX (Ah (Ev.a0 aO) Aq) hf (fun _=>⟨_,rfl⟩)) aB Zn (by first | rfl | lia) (by rfl)) (Aa (Bl (Al (by rfl) aF) (by rfl) aF Zn rfl) (Aa (Af (Ac (Zm aB) Ae (aI (by lia))) (Aa (Af (Ac (Zm aB) Ae (aI (by lia))) (Aa (Af (Ac (Zm aB) Ae (aI (by lia))) (Aa (Af (Ac (Zm aB) Ae (aI (by lia))) (Aa (Af (Ac (Zm aB) Ae (aI (by lia))) (Aa (Af (Ac (Zm aB) Ae (aI (by lia))) (Aa (Af (Ac (Zm aB) Ae (aI (by lia))) (Aa (Af (Ac (Zm aB) Ae (aI (by lia))) (Aa (Af (Ac (Zm aB) Ae (aI (by lia))) (Aa (Af (Ac (Zm aB) Ae (aI (by lia))) (Aa (Af (Ac (Zm aB) Ae (aI (by lia))) (Aa (Af (Ac (Zm aB) Ae (aI (by lia))) (Aa (Ak (Ac (Zm aB) Ae (bY (by lia))) (Aa (Bd (loc':=[("self",.self x),("B_foreign",.bool false),("v_1",.int dn.length),("among_var",.int 13)]) Ap bG Zn (by rfl)) Ad)) Ad)) Ad)) Ad)) Ad)) Ad)) Ad)) Ad)) Ad)) Ad)) Ad)) Ad)) Ad)) (Ab Cj (by simp)))))) (by simp)) (by simp))) (aD rfl (aD rfl aP)) rfl
theorem can_14 {dn r:T} {a:Nat} {b:Bool} (hcl:(dn++(a::r)).length≤60000) (hf:FAF A0 (dn++(a::r)) dn.length 14 dn.length):CIT (dn++(a::r)) dn.length b (dn++[a]++r) (dn++[a]).length b:=by
  rw [List.append_assoc,List.length_append]
  intro bra ket
  have hL:(dn++(a::r)).length=dn.length+(r.length+1):=by simp
  refine ⟨dn.length,dn.length,fun {d x dx}=>?_⟩
  refine' By _ (Aa (An (v':=dn.length) (loc':=[("self",.self x),("B_foreign",.bool b),("v_1",.int dn.length)]) (Al (by rfl) aF) cC Zn (by first | rfl | lia) (by rfl)) (Ab (Ay (Aa (Bb (Al (by rfl) aF) (by rfl) aF Zn rfl) (Aa (An (v':=14) (loc':=[("self",.self x),("B_foreign",.bool b),("v_1",.int dn.length),("among_var",.int 14)]) (Av (Zm aF) (by rfl) (by rfl) aX (Ah (Ev.a0 aO) Aq) hf (fun _=>⟨_,rfl⟩)) aB Zn (by first | rfl | lia) (by rfl)) (Aa (Bl (Al (by rfl) aF) (by rfl) aF Zn rfl) (Aa (Af (Ac (Zm aB) Ae (aI (by lia))) (Aa (Af (Ac (Zm aB) Ae (aI (by lia))) (Aa (Af (Ac (Zm aB) Ae (aI (by lia))) (Aa (Af (Ac (Zm aB) Ae (aI (by lia))) (Aa (Af (Ac (Zm aB) Ae (aI (by lia))) (Aa (Af (Ac (Zm aB) Ae (aI (by lia))) (Aa (Af (Ac (Zm aB) Ae (aI (by lia))) (Aa (Af (Ac (Zm aB) Ae (aI (by lia))) (Aa (Af (Ac (Zm aB) Ae (aI (by lia))) (Aa (Af (Ac (Zm aB) Ae (aI (by lia))) (Aa (Af (Ac (Zm aB) Ae (aI (by lia))) (Aa (Af (Ac (Zm aB) Ae (aI (by lia))) (Aa (Af (Ac (Zm aB) Ae (aI (by lia))) (Aa (Af (Ac (Al (by rfl) aF) (At (by rfl) aF) (nK (by lia))) Ad) (Aa (Ex.aCAdd (v':=(dn.length+1:Nat)) Ae (by rfl) aF (by lia)) Ad))) Ad)) Ad)) Ad)) Ad)) Ad)) Ad)) Ad)) Ad)) Ad)) Ad)) Ad)) Ad)) (Ab Cj (by simp)))))) (by simp)) (by simp))) (aD rfl (aD rfl aP)) rfl
theorem can_end {cur:T} {b:Bool} (hf:FAF A0 cur cur.length 14 cur.length):CWH cur cur.length b cur b:=fun bra ket=>by
  refine ⟨cur.length,cur.length,fun {d x dx}=>?_⟩
  refine' Bi (Ai Ap Zn) (By _ (Aa (An (v':=cur.length) (loc':=[("self",.self x),("B_foreign",.bool b),("v_1",.int cur.length)]) (Al (by rfl) aF) cC Zn (by first | rfl | lia) (by rfl)) (Aa (As (Aa (Bb (Al (by rfl) aF) (by rfl) aF Zn rfl) (Aa (An (v':=14) (loc':=[("self",.self x),("B_foreign",.bool b),("v_1",.int cur.length),("among_var",.int 14)]) (Av (Zm aF) (by rfl) (by rfl) aX (Ah (Ev.a0 aO) Aq) hf (fun _=>⟨_,rfl⟩)) aB Zn (by first | rfl | lia) (by rfl)) (Aa (Bl (Al (by rfl) aF) (by rfl) aF Zn rfl) (Ab (Af (Ac (Zm aB) Ae (aI (by lia))) (Ab (Af (Ac (Zm aB) Ae (aI (by lia))) (Ab (Af (Ac (Zm aB) Ae (aI (by lia))) (Ab (Af (Ac (Zm aB) Ae (aI (by lia))) (Ab (Af (Ac (Zm aB) Ae (aI (by lia))) (Ab (Af (Ac (Zm aB) Ae (aI (by lia))) (Ab (Af (Ac (Zm aB) Ae (aI (by lia))) (Ab (Af (Ac (Zm aB) Ae (aI (by lia))) (Ab (Af (Ac (Zm aB) Ae (aI (by lia))) (Ab (Af (Ac (Zm aB) Ae (aI (by lia))) (Ab (Af (Ac (Zm aB) Ae (aI (by lia))) (Ab (Af (Ac (Zm aB) Ae (aI (by lia))) (Ab (Af (Ac (Zm aB) Ae (aI (by lia))) (Ab (Ak (Ac (Al (by rfl) aF) (At (by rfl) aF) (i_ge_t (by lia))) (Ab (Ao n6_3_lab0) (by simp))) (by simp))) (by simp))) (by simp))) (by simp))) (by simp))) (by simp))) (by simp))) (by simp))) (by simp))) (by simp))) (by simp))) (by simp))) (by simp))) (by simp))))) n6_3_lab0) (Aa (Ba (v':=cur.length) (Zm cC) (by rfl) aF Zn (by lia)) (Ab Bq (by simp))))) (aD rfl (aD rfl aP)) rfl)
theorem can_ok {cur cur':T} {b':Bool} (h:CWH cur 0 false cur' b'):PF 238 cur (!b') cur':=fun bra ket=>by
  obtain ⟨k1,k2,hw⟩:=h bra ket
  refine ⟨cur'.length,k1,k2,fun {d x dx}=>?_⟩
  refine' Au kD rfl (.inl rfl) (Aa (Bd (loc':=[("self",.self x),("B_foreign",.bool false)]) Ap bG Zn (by rfl)) (Aa (Az hw) (Ab (Ax (Ev.not_ (Zm bG))) (by simp)))) ?_
  rfl
theorem aM:(aE (stC 6 13)).names.lookup ("lab0" : Str)=some NameKind.globalImplicit:=by kernel_rfl
theorem aA:(aE (stC 6 13)).names.lookup ("self" : Str)=some NameKind.local:=by kernel_rfl
theorem bW:(aE (stC 6 13)).names.lookup ("v_1" : Str)=some NameKind.local:=by kernel_rfl
theorem bZ:(aE (stC 6 13)).names.lookup ("v_2" : Str)=some NameKind.local:=by kernel_rfl
theorem cG:(aE (stC 6 13)).names.lookup ("v_3" : Str)=some NameKind.local:=by kernel_rfl
theorem cM:(aE (stC 6 13)).names.lookup ("v_4" : Str)=some NameKind.local:=by kernel_rfl
theorem cQ:(aE (stC 6 13)).names.lookup ("v_5" : Str)=some NameKind.local:=by kernel_rfl
theorem dO:(aE (stC 6 13)).names.lookup ("v_6" : Str)=some NameKind.local:=by kernel_rfl
theorem eN:(aE (stC 6 13)).names.lookup ("v_7" : Str)=some NameKind.local:=by kernel_rfl
theorem fM:(aE (stC 6 13)).names.lookup ("v_8" : Str)=some NameKind.local:=by kernel_rfl
theorem iM:(aE (stC 6 13)).names.lookup ("v_9" : Str)=some NameKind.local:=by kernel_rfl
noncomputable def PS (cur cur':T):Prop:=∀ bra ket:Int,∃ (b:Bool) (c' bra' ket':Int),∀ {d:Nat} {x dx:Addr},
  CallOK (d+5) 308 [.self x] (.some (x,dx,FF cur 0 cur.length 0 bra ket)) (.bool b) (.some (x,dx,FF cur' c' cur'.length 0 bra' ket'))
theorem st_0 {x0 x1:T}  (h0:PF 238 x0 false x1):PS x0 x1:=fun bra ket=>by
  obtain ⟨k0,u0,w0,h0⟩:=h0 bra ket
  refine ⟨false,k0,u0,w0,fun {d x dx}=>?_⟩
  refine' Au fH rfl (.inl rfl) (Aa (An (v':=0) (loc':=[("self",.self x),("v_1",.int 0)]) (Al (by rfl) aA) bW Zn (by first | rfl | lia) (by rfl)) (Ab (Ak (Bc (Ai (Aw (Zm aA) (by rfl) (by rfl) bF h0 (fun _=>⟨_,rfl⟩)) Zn)) (Ab (Ax Ap) (by simp))) (by simp))) ?_
  rfl
theorem st_2 {x0 x1 x2 x3:T} {b1:Bool} (h0:PF 238 x0 true x1) (h1:PF 245 x1 b1 x2) (h2:PR 252 x2 true x3):PS x0 x3:=fun bra ket=>by
  obtain ⟨k0,u0,w0,h0⟩:=h0 bra ket
  obtain ⟨k1,u1,w1,h1⟩:=h1 u0 w0
  obtain ⟨k2,u2,w2,h2⟩:=h2 u1 w1
  refine ⟨false,k2,u2,w2,fun {d x dx}=>?_⟩
  refine' Au fH rfl (.inl rfl) (Aa (An (v':=0) (loc':=[("self",.self x),("v_1",.int 0)]) (Al (by rfl) aA) bW Zn (by first | rfl | lia) (by rfl)) (Aa (Af (Bh (Ai (Aw (Zm aA) (by rfl) (by rfl) bF h0 (fun _=>⟨_,rfl⟩)) Zn)) Ad) (Aa (Ba (v':=0) (Zm bW) (by rfl) aA Zn (by lia)) (Aa (An (v':=0) (loc':=[("self",.self x),("v_1",.int 0),("v_2",.int 0)]) (Al (by rfl) aA) bZ Zn (by first | rfl | lia) (by rfl)) (Aa (Bg (Aw (Zm aA) (by rfl) (by rfl) bC h1 (fun _=>⟨_,rfl⟩)) (by rfl) Zn) (Aa (Ba (v':=0) (Zm bZ) (by rfl) aA Zn (by lia)) (Aa (Ex.sB (Al (by rfl) aA) (by rfl) aA Zn rfl) (Aa (Ba (v':=x2.length) (At (by rfl) aA) (by rfl) aA Zn (by lia)) (Aa (An (v':=(x2.length - x2.length)) (loc':=[("self",.self x),("v_1",.int 0),("v_2",.int 0),("v_3",.int (x2.length - x2.length))]) (Ag (At (by rfl) aA) (Al (by rfl) aA)) cG Zn (by first | rfl | lia) (by rfl)) (Ab (Ay (Aa (Af (Bh (Ai (Aw (Zm aA) (by rfl) (by rfl) dP h2 (fun _=>⟨_,rfl⟩)) Zn)) Ad) (Ab (Ax Ap) (by simp))) (by simp)) (by simp))))))))))) ?_
  rfl
theorem st_4 {x0 x1 x2 x3 x4 x5:T} {b1:Bool} {b3:Bool} (h0:PF 238 x0 true x1) (h1:PF 245 x1 b1 x2) (h2:PR 252 x2 false x3) (h3:PR 259 x3 b3 x4) (h4:PR 287 x4 true x5):PS x0 x5:=fun bra ket=>by
  obtain ⟨k0,u0,w0,h0⟩:=h0 bra ket
  obtain ⟨k1,u1,w1,h1⟩:=h1 u0 w0
  obtain ⟨k2,u2,w2,h2⟩:=h2 u1 w1
  obtain ⟨k3,u3,w3,h3⟩:=h3 u2 w2
  obtain ⟨k4,u4,w4,h4⟩:=h4 u3 w3
  refine ⟨false,k4,u4,w4,fun {d x dx}=>?_⟩
  refine' Au fH rfl (.inl rfl) (Aa (An (v':=0) (loc':=[("self",.self x),("v_1",.int 0)]) (Al (by rfl) aA) bW Zn (by first | rfl | lia) (by rfl)) (Aa (Af (Bh (Ai (Aw (Zm aA) (by rfl) (by rfl) bF h0 (fun _=>⟨_,rfl⟩)) Zn)) Ad) (Aa (Ba (v':=0) (Zm bW) (by rfl) aA Zn (by lia)) (Aa (An (v':=0) (loc':=[("self",.self x),("v_1",.int 0),("v_2",.int 0)]) (Al (by rfl) aA) bZ Zn (by first | rfl | lia) (by rfl)) (Aa (Bg (Aw (Zm aA) (by rfl) (by rfl) bC h1 (fun _=>⟨_,rfl⟩)) (by rfl) Zn) (Aa (Ba (v':=0) (Zm bZ) (by rfl) aA Zn (by lia)) (Aa (Ex.sB (Al (by rfl) aA) (by rfl) aA Zn rfl) (Aa (Ba (v':=x2.length) (At (by rfl) aA) (by rfl) aA Zn (by lia)) (Aa (An (v':=(x2.length - x2.length)) (loc':=[("self",.self x),("v_1",.int 0),("v_2",.int 0),("v_3",.int (x2.length - x2.length))]) (Ag (At (by rfl) aA) (Al (by rfl) aA)) cG Zn (by first | rfl | lia) (by rfl)) (Aa (As (Ab (Ak (Bc (Ai (Aw (Zm aA) (by rfl) (by rfl) dP h2 (fun _=>⟨_,rfl⟩)) Zn)) (Ab (Ao aM) (by simp))) (by simp)) aM) (Aa (Ba (v':=x3.length) (Ag (At (by rfl) aA) (Zm cG)) (by rfl) aA Zn (by lia)) (Aa (An (v':=(x3.length - x3.length)) (loc':=[("self",.self x),("v_1",.int 0),("v_2",.int 0),("v_3",.int (x2.length - x2.length)),("v_4",.int (x3.length - x3.length))]) (Ag (At (by rfl) aA) (Al (by rfl) aA)) cM Zn (by first | rfl | lia) (by rfl)) (Aa (Bg (Aw (Zm aA) (by rfl) (by rfl) bJ h3 (fun _=>⟨_,rfl⟩)) (by rfl) Zn) (Aa (Ba (v':=x4.length) (Ag (At (by rfl) aA) (Zm cM)) (by rfl) aA Zn (by lia)) (Aa (An (v':=(x4.length - x4.length)) (loc':=[("self",.self x),("v_1",.int 0),("v_2",.int 0),("v_3",.int (x2.length - x2.length)),("v_4",.int (x3.length - x3.length)),("v_5",.int (x4.length - x4.length))]) (Ag (At (by rfl) aA) (Al (by rfl) aA)) cQ Zn (by first | rfl | lia) (by rfl)) (Ab (Ay (Aa (Af (Bh (Ai (Aw (Zm aA) (by rfl) (by rfl) cI h4 (fun _=>⟨_,rfl⟩)) Zn)) Ad) (Ab (Ax Ap) (by simp))) (by simp)) (by simp))))))))))))))))) ?_
  rfl
theorem st_5 {x0 x1 x2 x3 x4 x5 x6:T} {b1:Bool} {b3:Bool} (h0:PF 238 x0 true x1) (h1:PF 245 x1 b1 x2) (h2:PR 252 x2 false x3) (h3:PR 259 x3 b3 x4) (h4:PR 287 x4 false x5) (h5:PR 273 x5 true x6):PS x0 x6:=fun bra ket=>by
  obtain ⟨k0,u0,w0,h0⟩:=h0 bra ket
  obtain ⟨k1,u1,w1,h1⟩:=h1 u0 w0
  obtain ⟨k2,u2,w2,h2⟩:=h2 u1 w1
  obtain ⟨k3,u3,w3,h3⟩:=h3 u2 w2
  obtain ⟨k4,u4,w4,h4⟩:=h4 u3 w3
  obtain ⟨k5,u5,w5,h5⟩:=h5 u4 w4
  refine ⟨false,k5,u5,w5,fun {d x dx}=>?_⟩
  refine' Au fH rfl (.inl rfl) (Aa (An (v':=0) (loc':=[("self",.self x),("v_1",.int 0)]) (Al (by rfl) aA) bW Zn (by first | rfl | lia) (by rfl)) (Aa (Af (Bh (Ai (Aw (Zm aA) (by rfl) (by rfl) bF h0 (fun _=>⟨_,rfl⟩)) Zn)) Ad) (Aa (Ba (v':=0) (Zm bW) (by rfl) aA Zn (by lia)) (Aa (An (v':=0) (loc':=[("self",.self x),("v_1",.int 0),("v_2",.int 0)]) (Al (by rfl) aA) bZ Zn (by first | rfl | lia) (by rfl)) (Aa (Bg (Aw (Zm aA) (by rfl) (by rfl) bC h1 (fun _=>⟨_,rfl⟩)) (by rfl) Zn) (Aa (Ba (v':=0) (Zm bZ) (by rfl) aA Zn (by lia)) (Aa (Ex.sB (Al (by rfl) aA) (by rfl) aA Zn rfl) (Aa (Ba (v':=x2.length) (At (by rfl) aA) (by rfl) aA Zn (by lia)) (Aa (An (v':=(x2.length - x2.length)) (loc':=[("self",.self x),("v_1",.int 0),("v_2",.int 0),("v_3",.int (x2.length - x2.length))]) (Ag (At (by rfl) aA) (Al (by rfl) aA)) cG Zn (by first | rfl | lia) (by rfl)) (Aa (As (Ab (Ak (Bc (Ai (Aw (Zm aA) (by rfl) (by rfl) dP h2 (fun _=>⟨_,rfl⟩)) Zn)) (Ab (Ao aM) (by simp))) (by simp)) aM) (Aa (Ba (v':=x3.length) (Ag (At (by rfl) aA) (Zm cG)) (by rfl) aA Zn (by lia)) (Aa (An (v':=(x3.length - x3.length)) (loc':=[("self",.self x),("v_1",.int 0),("v_2",.int 0),("v_3",.int (x2.length - x2.length)),("v_4",.int (x3.length - x3.length))]) (Ag (At (by rfl) aA) (Al (by rfl) aA)) cM Zn (by first | rfl | lia) (by rfl)) (Aa (Bg (Aw (Zm aA) (by rfl) (by rfl) bJ h3 (fun _=>⟨_,rfl⟩)) (by rfl) Zn) (Aa (Ba (v':=x4.length) (Ag (At (by rfl) aA) (Zm cM)) (by rfl) aA Zn (by lia)) (Aa (An (v':=(x4.length - x4.length)) (loc':=[("self",.self x),("v_1",.int 0),("v_2",.int 0),("v_3",.int (x2.length - x2.length)),("v_4",.int (x3.length - x3.length)),("v_5",.int (x4.length - x4.length))]) (Ag (At (by rfl) aA) (Al (by rfl) aA)) cQ Zn (by first | rfl | lia) (by rfl)) (Aa (As (Ab (Ak (Bc (Ai (Aw (Zm aA) (by rfl) (by rfl) cI h4 (fun _=>⟨_,rfl⟩)) Zn)) (Ab (Ao aM) (by simp))) (by simp)) aM) (Aa (Ba (v':=x5.length) (Ag (At (by rfl) aA) (Zm cQ)) (by rfl) aA Zn (by lia)) (Aa (An (v':=(x5.length - x5.length)) (loc':=[("self",.self x),("v_1",.int 0),("v_2",.int 0),("v_3",.int (x2.length - x2.length)),("v_4",.int (x3.length - x3.length)),("v_5",.int (x4.length - x4.length)),("v_6",.int (x5.length - x5.length))]) (Ag (At (by rfl) aA) (Al (by rfl) aA)) dO Zn (by first | rfl | lia) (by rfl)) (Ab (Ay (Aa (Af (Bh (Ai (Aw (Zm aA) (by rfl) (by rfl) cR h5 (fun _=>⟨_,rfl⟩)) Zn)) Ad) (Ab (Ax Ap) (by simp))) (by simp)) (by simp)))))))))))))))))))) ?_
  rfl
theorem st_6 {x0 x1 x2 x3 x4 x5 x6 x7:T} {b1:Bool} {b3:Bool} (h0:PF 238 x0 true x1) (h1:PF 245 x1 b1 x2) (h2:PR 252 x2 false x3) (h3:PR 259 x3 b3 x4) (h4:PR 287 x4 false x5) (h5:PR 273 x5 false x6) (h6:PR 280 x6 true x7):PS x0 x7:=fun bra ket=>by
  obtain ⟨k0,u0,w0,h0⟩:=h0 bra ket
  obtain ⟨k1,u1,w1,h1⟩:=h1 u0 w0
  obtain ⟨k2,u2,w2,h2⟩:=h2 u1 w1
  obtain ⟨k3,u3,w3,h3⟩:=h3 u2 w2
  obtain ⟨k4,u4,w4,h4⟩:=h4 u3 w3
  obtain ⟨k5,u5,w5,h5⟩:=h5 u4 w4
  obtain ⟨k6,u6,w6,h6⟩:=h6 u5 w5
  refine ⟨false,k6,u6,w6,fun {d x dx}=>?_⟩
  refine' Au fH rfl (.inl rfl) (Aa (An (v':=0) (loc':=[("self",.self x),("v_1",.int 0)]) (Al (by rfl) aA) bW Zn (by first | rfl | lia) (by rfl)) (Aa (Af (Bh (Ai (Aw (Zm aA) (by rfl) (by rfl) bF h0 (fun _=>⟨_,rfl⟩)) Zn)) Ad) (Aa (Ba (v':=0) (Zm bW) (by rfl) aA Zn (by lia)) (Aa (An (v':=0) (loc':=[("self",.self x),("v_1",.int 0),("v_2",.int 0)]) (Al (by rfl) aA) bZ Zn (by first | rfl | lia) (by rfl)) (Aa (Bg (Aw (Zm aA) (by rfl) (by rfl) bC h1 (fun _=>⟨_,rfl⟩)) (by rfl) Zn) (Aa (Ba (v':=0) (Zm bZ) (by rfl) aA Zn (by lia)) (Aa (Ex.sB (Al (by rfl) aA) (by rfl) aA Zn rfl) (Aa (Ba (v':=x2.length) (At (by rfl) aA) (by rfl) aA Zn (by lia)) (Aa (An (v':=(x2.length - x2.length)) (loc':=[("self",.self x),("v_1",.int 0),("v_2",.int 0),("v_3",.int (x2.length - x2.length))]) (Ag (At (by rfl) aA) (Al (by rfl) aA)) cG Zn (by first | rfl | lia) (by rfl)) (Aa (As (Ab (Ak (Bc (Ai (Aw (Zm aA) (by rfl) (by rfl) dP h2 (fun _=>⟨_,rfl⟩)) Zn)) (Ab (Ao aM) (by simp))) (by simp)) aM) (Aa (Ba (v':=x3.length) (Ag (At (by rfl) aA) (Zm cG)) (by rfl) aA Zn (by lia)) (Aa (An (v':=(x3.length - x3.length)) (loc':=[("self",.self x),("v_1",.int 0),("v_2",.int 0),("v_3",.int (x2.length - x2.length)),("v_4",.int (x3.length - x3.length))]) (Ag (At (by rfl) aA) (Al (by rfl) aA)) cM Zn (by first | rfl | lia) (by rfl)) (Aa (Bg (Aw (Zm aA) (by rfl) (by rfl) bJ h3 (fun _=>⟨_,rfl⟩)) (by rfl) Zn) (Aa (Ba (v':=x4.length) (Ag (At (by rfl) aA) (Zm cM)) (by rfl) aA Zn (by lia)) (Aa (An (v':=(x4.length - x4.length)) (loc':=[("self",.self x),("v_1",.int 0),("v_2",.int 0),("v_3",.int (x2.length - x2.length)),("v_4",.int (x3.length - x3.length)),("v_5",.int (x4.length - x4.length))]) (Ag (At (by rfl) aA) (Al (by rfl) aA)) cQ Zn (by first | rfl | lia) (by rfl)) (Aa (As (Ab (Ak (Bc (Ai (Aw (Zm aA) (by rfl) (by rfl) cI h4 (fun _=>⟨_,rfl⟩)) Zn)) (Ab (Ao aM) (by simp))) (by simp)) aM) (Aa (Ba (v':=x5.length) (Ag (At (by rfl) aA) (Zm cQ)) (by rfl) aA Zn (by lia)) (Aa (An (v':=(x5.length - x5.length)) (loc':=[("self",.self x),("v_1",.int 0),("v_2",.int 0),("v_3",.int (x2.length - x2.length)),("v_4",.int (x3.length - x3.length)),("v_5",.int (x4.length - x4.length)),("v_6",.int (x5.length - x5.length))]) (Ag (At (by rfl) aA) (Al (by rfl) aA)) dO Zn (by first | rfl | lia) (by rfl)) (Aa (As (Ab (Ak (Bc (Ai (Aw (Zm aA) (by rfl) (by rfl) cR h5 (fun _=>⟨_,rfl⟩)) Zn)) (Ab (Ao aM) (by simp))) (by simp)) aM) (Aa (Ba (v':=x6.length) (Ag (At (by rfl) aA) (Zm dO)) (by rfl) aA Zn (by lia)) (Aa (An (v':=(x6.length - x6.length)) (loc':=[("self",.self x),("v_1",.int 0),("v_2",.int 0),("v_3",.int (x2.length - x2.length)),("v_4",.int (x3.length - x3.length)),("v_5",.int (x4.length - x4.length)),("v_6",.int (x5.length - x5.length)),("v_7",.int (x6.length - x6.length))]) (Ag (At (by rfl) aA) (Al (by rfl) aA)) eN Zn (by first | rfl | lia) (by rfl)) (Ab (Ay (Aa (Af (Bh (Ai (Aw (Zm aA) (by rfl) (by rfl) cN h6 (fun _=>⟨_,rfl⟩)) Zn)) Ad) (Ab (Ax Ap) (by simp))) (by simp)) (by simp))))))))))))))))))))))) ?_
  rfl
theorem st_7 {x0 x1 x2 x3 x4 x5 x6 x7 x8:T} {b1:Bool} {b3:Bool} (h0:PF 238 x0 true x1) (h1:PF 245 x1 b1 x2) (h2:PR 252 x2 false x3) (h3:PR 259 x3 b3 x4) (h4:PR 287 x4 false x5) (h5:PR 273 x5 false x6) (h6:PR 280 x6 false x7) (h7:PR 266 x7 true x8):PS x0 x8:=fun bra ket=>by
  obtain ⟨k0,u0,w0,h0⟩:=h0 bra ket
  obtain ⟨k1,u1,w1,h1⟩:=h1 u0 w0
  obtain ⟨k2,u2,w2,h2⟩:=h2 u1 w1
  obtain ⟨k3,u3,w3,h3⟩:=h3 u2 w2
  obtain ⟨k4,u4,w4,h4⟩:=h4 u3 w3
  obtain ⟨k5,u5,w5,h5⟩:=h5 u4 w4
  obtain ⟨k6,u6,w6,h6⟩:=h6 u5 w5
  obtain ⟨k7,u7,w7,h7⟩:=h7 u6 w6
  refine ⟨false,k7,u7,w7,fun {d x dx}=>?_⟩
  refine' Au fH rfl (.inl rfl) (Aa (An (v':=0) (loc':=[("self",.self x),("v_1",.int 0)]) (Al (by rfl) aA) bW Zn (by first | rfl | lia) (by rfl)) (Aa (Af (Bh (Ai (Aw (Zm aA) (by rfl) (by rfl) bF h0 (fun _=>⟨_,rfl⟩)) Zn)) Ad) (Aa (Ba (v':=0) (Zm bW) (by rfl) aA Zn (by lia)) (Aa (An (v':=0) (loc':=[("self",.self x),("v_1",.int 0),("v_2",.int 0)]) (Al (by rfl) aA) bZ Zn (by first | rfl | lia) (by rfl)) (Aa (Bg (Aw (Zm aA) (by rfl) (by rfl) bC h1 (fun _=>⟨_,rfl⟩)) (by rfl) Zn) (Aa (Ba (v':=0) (Zm bZ) (by rfl) aA Zn (by lia)) (Aa (Ex.sB (Al (by rfl) aA) (by rfl) aA Zn rfl) (Aa (Ba (v':=x2.length) (At (by rfl) aA) (by rfl) aA Zn (by lia)) (Aa (An (v':=(x2.length - x2.length)) (loc':=[("self",.self x),("v_1",.int 0),("v_2",.int 0),("v_3",.int (x2.length - x2.length))]) (Ag (At (by rfl) aA) (Al (by rfl) aA)) cG Zn (by first | rfl | lia) (by rfl)) (Aa (As (Ab (Ak (Bc (Ai (Aw (Zm aA) (by rfl) (by rfl) dP h2 (fun _=>⟨_,rfl⟩)) Zn)) (Ab (Ao aM) (by simp))) (by simp)) aM) (Aa (Ba (v':=x3.length) (Ag (At (by rfl) aA) (Zm cG)) (by rfl) aA Zn (by lia)) (Aa (An (v':=(x3.length - x3.length)) (loc':=[("self",.self x),("v_1",.int 0),("v_2",.int 0),("v_3",.int (x2.length - x2.length)),("v_4",.int (x3.length - x3.length))]) (Ag (At (by rfl) aA) (Al (by rfl) aA)) cM Zn (by first | rfl | lia) (by rfl)) (Aa (Bg (Aw (Zm aA) (by rfl) (by rfl) bJ h3 (fun _=>⟨_,rfl⟩)) (by rfl) Zn) (Aa (Ba (v':=x4.length) (Ag (At (by rfl) aA) (Zm cM)) (by rfl) aA Zn (by lia)) (Aa (An (v':=(x4.length - x4.length)) (loc':=[("self",.self x),("v_1",.int 0),("v_2",.int 0),("v_3",.int (x2.length - x2.length)),("v_4",.int (x3.length - x3.length)),("v_5",.int (x4.length - x4.length))]) (Ag (At (by rfl) aA) (Al (by rfl) aA)) cQ Zn (by first | rfl | lia) (by rfl)) (Aa (As (Ab (Ak (Bc (Ai (Aw (Zm aA) (by rfl) (by rfl) cI h4 (fun _=>⟨_,rfl⟩)) Zn)) (Ab (Ao aM) (by simp))) (by simp)) aM) (Aa (Ba (v':=x5.length) (Ag (At (by rfl) aA) (Zm cQ)) (by rfl) aA Zn (by lia)) (Aa (An (v':=(x5.length - x5.length)) (loc':=[("self",.self x),("v_1",.int 0),("v_2",.int 0),("v_3",.int (x2.length - x2.length)),("v_4",.int (x3.length - x3.length)),("v_5",.int (x4.length - x4.length)),("v_6",.int (x5.length - x5.length))]) (Ag (At (by rfl) aA) (Al (by rfl) aA)) dO Zn (by first | rfl | lia) (by rfl)) (Aa (As (Ab (Ak (Bc (Ai (Aw (Zm aA) (by rfl) (by rfl) cR h5 (fun _=>⟨_,rfl⟩)) Zn)) (Ab (Ao aM) (by simp))) (by simp)) aM) (Aa (Ba (v':=x6.length) (Ag (At (by rfl) aA) (Zm dO)) (by rfl) aA Zn (by lia)) (Aa (An (v':=(x6.length - x6.length)) (loc':=[("self",.self x),("v_1",.int 0),("v_2",.int 0),("v_3",.int (x2.length - x2.length)),("v_4",.int (x3.length - x3.length)),("v_5",.int (x4.length - x4.length)),("v_6",.int (x5.length - x5.length)),("v_7",.int (x6.length - x6.length))]) (Ag (At (by rfl) aA) (Al (by rfl) aA)) eN Zn (by first | rfl | lia) (by rfl)) (Aa (As (Ab (Ak (Bc (Ai (Aw (Zm aA) (by rfl) (by rfl) cN h6 (fun _=>⟨_,rfl⟩)) Zn)) (Ab (Ao aM) (by simp))) (by simp)) aM) (Aa (Ba (v':=x7.length) (Ag (At (by rfl) aA) (Zm eN)) (by rfl) aA Zn (by lia)) (Aa (An (v':=(x7.length - x7.length)) (loc':=[("self",.self x),("v_1",.int 0),("v_2",.int 0),("v_3",.int (x2.length - x2.length)),("v_4",.int (x3.length - x3.length)),("v_5",.int (x4.length - x4.length)),("v_6",.int (x5.length - x5.length)),("v_7",.int (x6.length - x6.length)),("v_8",.int (x7.length - x7.length))]) (Ag (At (by rfl) aA) (Al (by rfl) aA)) fM Zn (by first | rfl | lia) (by rfl)) (Ab (Ay (Aa (Af (Bh (Ai (Aw (Zm aA) (by rfl) (by rfl) eY h7 (fun _=>⟨_,rfl⟩)) Zn)) Ad) (Ab (Ax Ap) (by simp))) (by simp)) (by simp)))))))))))))))))))))))))) ?_
  rfl
theorem st_8 {x0 x1 x2 x3 x4 x5 x6 x7 x8 x9:T} {b1:Bool} {b3:Bool} (h0:PF 238 x0 true x1) (h1:PF 245 x1 b1 x2) (h2:PR 252 x2 false x3) (h3:PR 259 x3 b3 x4) (h4:PR 287 x4 false x5) (h5:PR 273 x5 false x6) (h6:PR 280 x6 false x7) (h7:PR 266 x7 false x8) (h8:PR 294 x8 false x9):PS x0 x9:=fun bra ket=>by
  obtain ⟨k0,u0,w0,h0⟩:=h0 bra ket
  obtain ⟨k1,u1,w1,h1⟩:=h1 u0 w0
  obtain ⟨k2,u2,w2,h2⟩:=h2 u1 w1
  obtain ⟨k3,u3,w3,h3⟩:=h3 u2 w2
  obtain ⟨k4,u4,w4,h4⟩:=h4 u3 w3
  obtain ⟨k5,u5,w5,h5⟩:=h5 u4 w4
  obtain ⟨k6,u6,w6,h6⟩:=h6 u5 w5
  obtain ⟨k7,u7,w7,h7⟩:=h7 u6 w6
  obtain ⟨k8,u8,w8,h8⟩:=h8 u7 w7
  refine ⟨false,k8,u8,w8,fun {d x dx}=>?_⟩
  refine' Au fH rfl (.inl rfl) (Aa (An (v':=0) (loc':=[("self",.self x),("v_1",.int 0)]) (Al (by rfl) aA) bW Zn (by first | rfl | lia) (by rfl)) (Aa (Af (Bh (Ai (Aw (Zm aA) (by rfl) (by rfl) bF h0 (fun _=>⟨_,rfl⟩)) Zn)) Ad) (Aa (Ba (v':=0) (Zm bW) (by rfl) aA Zn (by lia)) (Aa (An (v':=0) (loc':=[("self",.self x),("v_1",.int 0),("v_2",.int 0)]) (Al (by rfl) aA) bZ Zn (by first | rfl | lia) (by rfl)) (Aa (Bg (Aw (Zm aA) (by rfl) (by rfl) bC h1 (fun _=>⟨_,rfl⟩)) (by rfl) Zn) (Aa (Ba (v':=0) (Zm bZ) (by rfl) aA Zn (by lia)) (Aa (Ex.sB (Al (by rfl) aA) (by rfl) aA Zn rfl) (Aa (Ba (v':=x2.length) (At (by rfl) aA) (by rfl) aA Zn (by lia)) (Aa (An (v':=(x2.length - x2.length)) (loc':=[("self",.self x),("v_1",.int 0),("v_2",.int 0),("v_3",.int (x2.length - x2.length))]) (Ag (At (by rfl) aA) (Al (by rfl) aA)) cG Zn (by first | rfl | lia) (by rfl)) (Aa (As (Ab (Ak (Bc (Ai (Aw (Zm aA) (by rfl) (by rfl) dP h2 (fun _=>⟨_,rfl⟩)) Zn)) (Ab (Ao aM) (by simp))) (by simp)) aM) (Aa (Ba (v':=x3.length) (Ag (At (by rfl) aA) (Zm cG)) (by rfl) aA Zn (by lia)) (Aa (An (v':=(x3.length - x3.length)) (loc':=[("self",.self x),("v_1",.int 0),("v_2",.int 0),("v_3",.int (x2.length - x2.length)),("v_4",.int (x3.length - x3.length))]) (Ag (At (by rfl) aA) (Al (by rfl) aA)) cM Zn (by first | rfl | lia) (by rfl)) (Aa (Bg (Aw (Zm aA) (by rfl) (by rfl) bJ h3 (fun _=>⟨_,rfl⟩)) (by rfl) Zn) (Aa (Ba (v':=x4.length) (Ag (At (by rfl) aA) (Zm cM)) (by rfl) aA Zn (by lia)) (Aa (An (v':=(x4.length - x4.length)) (loc':=[("self",.self x),("v_1",.int 0),("v_2",.int 0),("v_3",.int (x2.length - x2.length)),("v_4",.int (x3.length - x3.length)),("v_5",.int (x4.length - x4.length))]) (Ag (At (by rfl) aA) (Al (by rfl) aA)) cQ Zn (by first | rfl | lia) (by rfl)) (Aa (As (Ab (Ak (Bc (Ai (Aw (Zm aA) (by rfl) (by rfl) cI h4 (fun _=>⟨_,rfl⟩)) Zn)) (Ab (Ao aM) (by simp))) (by simp)) aM) (Aa (Ba (v':=x5.length) (Ag (At (by rfl) aA) (Zm cQ)) (by rfl) aA Zn (by lia)) (Aa (An (v':=(x5.length - x5.length)) (loc':=[("self",.self x),("v_1",.int 0),("v_2",.int 0),("v_3",.int (x2.length - x2.length)),("v_4",.int (x3.length - x3.length)),("v_5",.int (x4.length - x4.length)),("v_6",.int (x5.length - x5.length))]) (Ag (At (by rfl) aA) (Al (by rfl) aA)) dO Zn (by first | rfl | lia) (by rfl)) (Aa (As (Ab (Ak (Bc (Ai (Aw (Zm aA) (by rfl) (by rfl) cR h5 (fun _=>⟨_,rfl⟩)) Zn)) (Ab (Ao aM) (by simp))) (by simp)) aM) (Aa (Ba (v':=x6.length) (Ag (At (by rfl) aA) (Zm dO)) (by rfl) aA Zn (by lia)) (Aa (An (v':=(x6.length - x6.length)) (loc':=[("self",.self x),("v_1",.int 0),("v_2",.int 0),("v_3",.int (x2.length - x2.length)),("v_4",.int (x3.length - x3.length)),("v_5",.int (x4.length - x4.length)),("v_6",.int (x5.length - x5.length)),("v_7",.int (x6.length - x6.length))]) (Ag (At (by rfl) aA) (Al (by rfl) aA)) eN Zn (by first | rfl | lia) (by rfl)) (Aa (As (Ab (Ak (Bc (Ai (Aw (Zm aA) (by rfl) (by rfl) cN h6 (fun _=>⟨_,rfl⟩)) Zn)) (Ab (Ao aM) (by simp))) (by simp)) aM) (Aa (Ba (v':=x7.length) (Ag (At (by rfl) aA) (Zm eN)) (by rfl) aA Zn (by lia)) (Aa (An (v':=(x7.length - x7.length)) (loc':=[("self",.self x),("v_1",.int 0),("v_2",.int 0),("v_3",.int (x2.length - x2.length)),("v_4",.int (x3.length - x3.length)),("v_5",.int (x4.length - x4.length)),("v_6",.int (x5.length - x5.length)),("v_7",.int (x6.length - x6.length)),("v_8",.int (x7.length - x7.length))]) (Ag (At (by rfl) aA) (Al (by rfl) aA)) fM Zn (by first | rfl | lia) (by rfl)) (Aa (As (Ab (Ak (Bc (Ai (Aw (Zm aA) (by rfl) (by rfl) eY h7 (fun _=>⟨_,rfl⟩)) Zn)) (Ab (Ao aM) (by simp))) (by simp)) aM) (Aa (Ba (v':=x8.length) (Ag (At (by rfl) aA) (Zm fM)) (by rfl) aA Zn (by lia)) (Aa (An (v':=(x8.length - x8.length)) (loc':=[("self",.self x),("v_1",.int 0),("v_2",.int 0),("v_3",.int (x2.length - x2.length)),("v_4",.int (x3.length - x3.length)),("v_5",.int (x4.length - x4.length)),("v_6",.int (x5.length - x5.length)),("v_7",.int (x6.length - x6.length)),("v_8",.int (x7.length - x7.length)),("v_9",.int (x8.length - x8.length))]) (Ag (At (by rfl) aA) (Al (by rfl) aA)) iM Zn (by first | rfl | lia) (by rfl)) (Ab (Ak (Bc (Ai (Aw (Zm aA) (by rfl) (by rfl) hJ h8 (fun _=>⟨_,rfl⟩)) Zn)) (Ab (Ax Ap) (by simp))) (by simp))))))))))))))))))))))))))))) ?_
  rfl
theorem st_9 {x0 x1 x2 x3 x4 x5 x6 x7 x8 x9 x10:T} {b1:Bool} {b3:Bool} (h0:PF 238 x0 true x1) (h1:PF 245 x1 b1 x2) (h2:PR 252 x2 false x3) (h3:PR 259 x3 b3 x4) (h4:PR 287 x4 false x5) (h5:PR 273 x5 false x6) (h6:PR 280 x6 false x7) (h7:PR 266 x7 false x8) (h8:PR 294 x8 true x9) (h9:PR 301 x9 false x10):PS x0 x10:=fun bra ket=>by
  obtain ⟨k0,u0,w0,h0⟩:=h0 bra ket
  obtain ⟨k1,u1,w1,h1⟩:=h1 u0 w0
  obtain ⟨k2,u2,w2,h2⟩:=h2 u1 w1
  obtain ⟨k3,u3,w3,h3⟩:=h3 u2 w2
  obtain ⟨k4,u4,w4,h4⟩:=h4 u3 w3
  obtain ⟨k5,u5,w5,h5⟩:=h5 u4 w4
  obtain ⟨k6,u6,w6,h6⟩:=h6 u5 w5
  obtain ⟨k7,u7,w7,h7⟩:=h7 u6 w6
  obtain ⟨k8,u8,w8,h8⟩:=h8 u7 w7
  obtain ⟨k9,u9,w9,h9⟩:=h9 u8 w8
  refine ⟨false,k9,u9,w9,fun {d x dx}=>?_⟩
  refine' Au fH rfl (.inl rfl) (Aa (An (v':=0) (loc':=[("self",.self x),("v_1",.int 0)]) (Al (by rfl) aA) bW Zn (by first | rfl | lia) (by rfl)) (Aa (Af (Bh (Ai (Aw (Zm aA) (by rfl) (by rfl) bF h0 (fun _=>⟨_,rfl⟩)) Zn)) Ad) (Aa (Ba (v':=0) (Zm bW) (by rfl) aA Zn (by lia)) (Aa (An (v':=0) (loc':=[("self",.self x),("v_1",.int 0),("v_2",.int 0)]) (Al (by rfl) aA) bZ Zn (by first | rfl | lia) (by rfl)) (Aa (Bg (Aw (Zm aA) (by rfl) (by rfl) bC h1 (fun _=>⟨_,rfl⟩)) (by rfl) Zn) (Aa (Ba (v':=0) (Zm bZ) (by rfl) aA Zn (by lia)) (Aa (Ex.sB (Al (by rfl) aA) (by rfl) aA Zn rfl) (Aa (Ba (v':=x2.length) (At (by rfl) aA) (by rfl) aA Zn (by lia)) (Aa (An (v':=(x2.length - x2.length)) (loc':=[("self",.self x),("v_1",.int 0),("v_2",.int 0),("v_3",.int (x2.length - x2.length))]) (Ag (At (by rfl) aA) (Al (by rfl) aA)) cG Zn (by first | rfl | lia) (by rfl)) (Aa (As (Ab (Ak (Bc (Ai (Aw (Zm aA) (by rfl) (by rfl) dP h2 (fun _=>⟨_,rfl⟩)) Zn)) (Ab (Ao aM) (by simp))) (by simp)) aM) (Aa (Ba (v':=x3.length) (Ag (At (by rfl) aA) (Zm cG)) (by rfl) aA Zn (by lia)) (Aa (An (v':=(x3.length - x3.length)) (loc':=[("self",.self x),("v_1",.int 0),("v_2",.int 0),("v_3",.int (x2.length - x2.length)),("v_4",.int (x3.length - x3.length))]) (Ag (At (by rfl) aA) (Al (by rfl) aA)) cM Zn (by first | rfl | lia) (by rfl)) (Aa (Bg (Aw (Zm aA) (by rfl) (by rfl) bJ h3 (fun _=>⟨_,rfl⟩)) (by rfl) Zn) (Aa (Ba (v':=x4.length) (Ag (At (by rfl) aA) (Zm cM)) (by rfl) aA Zn (by lia)) (Aa (An (v':=(x4.length - x4.length)) (loc':=[("self",.self x),("v_1",.int 0),("v_2",.int 0),("v_3",.int (x2.length - x2.length)),("v_4",.int (x3.length - x3.length)),("v_5",.int (x4.length - x4.length))]) (Ag (At (by rfl) aA) (Al (by rfl) aA)) cQ Zn (by first | rfl | lia) (by rfl)) (Aa (As (Ab (Ak (Bc (Ai (Aw (Zm aA) (by rfl) (by rfl) cI h4 (fun _=>⟨_,rfl⟩)) Zn)) (Ab (Ao aM) (by simp))) (by simp)) aM) (Aa (Ba (v':=x5.length) (Ag (At (by rfl) aA) (Zm cQ)) (by rfl) aA Zn (by lia)) (Aa (An (v':=(x5.length - x5.length)) (loc':=[("self",.self x),("v_1",.int 0),("v_2",.int 0),("v_3",.int (x2.length - x2.length)),("v_4",.int (x3.length - x3.length)),("v_5",.int (x4.length - x4.length)),("v_6",.int (x5.length - x5.length))]) (Ag (At (by rfl) aA) (Al (by rfl) aA)) dO Zn (by first | rfl | lia) (by rfl)) (Aa (As (Ab (Ak (Bc (Ai (Aw (Zm aA) (by rfl) (by rfl) cR h5 (fun _=>⟨_,rfl⟩)) Zn)) (Ab (Ao aM) (by simp))) (by simp)) aM) (Aa (Ba (v':=x6.length) (Ag (At (by rfl) aA) (Zm dO)) (by rfl) aA Zn (by lia)) (Aa (An (v':=(x6.length - x6.length)) (loc':=[("self",.self x),("v_1",.int 0),("v_2",.int 0),("v_3",.int (x2.length - x2.length)),("v_4",.int (x3.length - x3.length)),("v_5",.int (x4.length - x4.length)),("v_6",.int (x5.length - x5.length)),("v_7",.int (x6.length - x6.length))]) (Ag (At (by rfl) aA) (Al (by rfl) aA)) eN Zn (by first | rfl | lia) (by rfl)) (Aa (As (Ab (Ak (Bc (Ai (Aw (Zm aA) (by rfl) (by rfl) cN h6 (fun _=>⟨_,rfl⟩)) Zn)) (Ab (Ao aM) (by simp))) (by simp)) aM) (Aa (Ba (v':=x7.length) (Ag (At (by rfl) aA) (Zm eN)) (by rfl) aA Zn (by lia)) (Aa (An (v':=(x7.length - x7.length)) (loc':=[("self",.self x),("v_1",.int 0),("v_2",.int 0),("v_3",.int (x2.length - x2.length)),("v_4",.int (x3.length - x3.length)),("v_5",.int (x4.length - x4.length)),("v_6",.int (x5.length - x5.length)),("v_7",.int (x6.length - x6.length)),("v_8",.int (x7.length - x7.length))]) (Ag (At (by rfl) aA) (Al (by rfl) aA)) fM Zn (by first | rfl | lia) (by rfl)) (Aa (As (Ab (Ak (Bc (Ai (Aw (Zm aA) (by rfl) (by rfl) eY h7 (fun _=>⟨_,rfl⟩)) Zn)) (Ab (Ao aM) (by simp))) (by simp)) aM) (Aa (Ba (v':=x8.length) (Ag (At (by rfl) aA) (Zm fM)) (by rfl) aA Zn (by lia)) (Aa (An (v':=(x8.length - x8.length)) (loc':=[("self",.self x),("v_1",.int 0),("v_2",.int 0),("v_3",.int (x2.length - x2.length)),("v_4",.int (x3.length - x3.length)),("v_5",.int (x4.length - x4.length)),("v_6",.int (x5.length - x5.length)),("v_7",.int (x6.length - x6.length)),("v_8",.int (x7.length - x7.length)),("v_9",.int (x8.length - x8.length))]) (Ag (At (by rfl) aA) (Al (by rfl) aA)) iM Zn (by first | rfl | lia) (by rfl)) (Aa (Af (Bh (Ai (Aw (Zm aA) (by rfl) (by rfl) hJ h8 (fun _=>⟨_,rfl⟩)) Zn)) Ad) (Aa (Ba (v':=x9.length) (Ag (At (by rfl) aA) (Zm iM)) (by rfl) aA Zn (by lia)) (Ab (Ak (Bc (Ai (Aw (Zm aA) (by rfl) (by rfl) fN h9 (fun _=>⟨_,rfl⟩)) Zn)) (Ab (Ax Ap) (by simp))) (by simp))))))))))))))))))))))))))))))) ?_
  rfl
theorem st_10 {x0 x1 x2 x3 x4 x5 x6 x7 x8 x9 x10:T} {b1:Bool} {b3:Bool} (h0:PF 238 x0 true x1) (h1:PF 245 x1 b1 x2) (h2:PR 252 x2 false x3) (h3:PR 259 x3 b3 x4) (h4:PR 287 x4 false x5) (h5:PR 273 x5 false x6) (h6:PR 280 x6 false x7) (h7:PR 266 x7 false x8) (h8:PR 294 x8 true x9) (h9:PR 301 x9 true x10):PS x0 x10:=fun bra ket=>by
  obtain ⟨k0,u0,w0,h0⟩:=h0 bra ket
  obtain ⟨k1,u1,w1,h1⟩:=h1 u0 w0
  obtain ⟨k2,u2,w2,h2⟩:=h2 u1 w1
  obtain ⟨k3,u3,w3,h3⟩:=h3 u2 w2
  obtain ⟨k4,u4,w4,h4⟩:=h4 u3 w3
  obtain ⟨k5,u5,w5,h5⟩:=h5 u4 w4
  obtain ⟨k6,u6,w6,h6⟩:=h6 u5 w5
  obtain ⟨k7,u7,w7,h7⟩:=h7 u6 w6
  obtain ⟨k8,u8,w8,h8⟩:=h8 u7 w7
  obtain ⟨k9,u9,w9,h9⟩:=h9 u8 w8
  refine ⟨true,0,u9,w9,fun {d x dx}=>?_⟩
  refine' Au fH rfl (.inl rfl) (Aa (An (v':=0) (loc':=[("self",.self x),("v_1",.int 0)]) (Al (by rfl) aA) bW Zn (by first | rfl | lia) (by rfl)) (Aa (Af (Bh (Ai (Aw (Zm aA) (by rfl) (by rfl) bF h0 (fun _=>⟨_,rfl⟩)) Zn)) Ad) (Aa (Ba (v':=0) (Zm bW) (by rfl) aA Zn (by lia)) (Aa (An (v':=0) (loc':=[("self",.self x),("v_1",.int 0),("v_2",.int 0)]) (Al (by rfl) aA) bZ Zn (by first | rfl | lia) (by rfl)) (Aa (Bg (Aw (Zm aA) (by rfl) (by rfl) bC h1 (fun _=>⟨_,rfl⟩)) (by rfl) Zn) (Aa (Ba (v':=0) (Zm bZ) (by rfl) aA Zn (by lia)) (Aa (Ex.sB (Al (by rfl) aA) (by rfl) aA Zn rfl) (Aa (Ba (v':=x2.length) (At (by rfl) aA) (by rfl) aA Zn (by lia)) (Aa (An (v':=(x2.length - x2.length)) (loc':=[("self",.self x),("v_1",.int 0),("v_2",.int 0),("v_3",.int (x2.length - x2.length))]) (Ag (At (by rfl) aA) (Al (by rfl) aA)) cG Zn (by first | rfl | lia) (by rfl)) (Aa (As (Ab (Ak (Bc (Ai (Aw (Zm aA) (by rfl) (by rfl) dP h2 (fun _=>⟨_,rfl⟩)) Zn)) (Ab (Ao aM) (by simp))) (by simp)) aM) (Aa (Ba (v':=x3.length) (Ag (At (by rfl) aA) (Zm cG)) (by rfl) aA Zn (by lia)) (Aa (An (v':=(x3.length - x3.length)) (loc':=[("self",.self x),("v_1",.int 0),("v_2",.int 0),("v_3",.int (x2.length - x2.length)),("v_4",.int (x3.length - x3.length))]) (Ag (At (by rfl) aA) (Al (by rfl) aA)) cM Zn (by first | rfl | lia) (by rfl)) (Aa (Bg (Aw (Zm aA) (by rfl) (by rfl) bJ h3 (fun _=>⟨_,rfl⟩)) (by rfl) Zn) (Aa (Ba (v':=x4.length) (Ag (At (by rfl) aA) (Zm cM)) (by rfl) aA Zn (by lia)) (Aa (An (v':=(x4.length - x4.length)) (loc':=[("self",.self x),("v_1",.int 0),("v_2",.int 0),("v_3",.int (x2.length - x2.length)),("v_4",.int (x3.length - x3.length)),("v_5",.int (x4.length - x4.length))]) (Ag (At (by rfl) aA) (Al (by rfl) aA)) cQ Zn (by first | rfl | lia) (by rfl)) (Aa (As (Ab (Ak (Bc (Ai (Aw (Zm aA) (by rfl) (by rfl) cI h4 (fun _=>⟨_,rfl⟩)) Zn)) (Ab (Ao aM) (by simp))) (by simp)) aM) (Aa (Ba (v':=x5.length) (Ag (At (by rfl) aA) (Zm cQ)) (by rfl) aA Zn (by lia)) (Aa (An (v':=(x5.length - x5.length)) (loc':=[("self",.self x),("v_1",.int 0),("v_2",.int 0),("v_3",.int (x2.length - x2.length)),("v_4",.int (x3.length - x3.length)),("v_5",.int (x4.length - x4.length)),("v_6",.int (x5.length - x5.length))]) (Ag (At (by rfl) aA) (Al (by rfl) aA)) dO Zn (by first | rfl | lia) (by rfl)) (Aa (As (Ab (Ak (Bc (Ai (Aw (Zm aA) (by rfl) (by rfl) cR h5 (fun _=>⟨_,rfl⟩)) Zn)) (Ab (Ao aM) (by simp))) (by simp)) aM) (Aa (Ba (v':=x6.length) (Ag (At (by rfl) aA) (Zm dO)) (by rfl) aA Zn (by lia)) (Aa (An (v':=(x6.length - x6.length)) (loc':=[("self",.self x),("v_1",.int 0),("v_2",.int 0),("v_3",.int (x2.length - x2.length)),("v_4",.int (x3.length - x3.length)),("v_5",.int (x4.length - x4.length)),("v_6",.int (x5.length - x5.length)),("v_7",.int (x6.length - x6.length))]) (Ag (At (by rfl) aA) (Al (by rfl) aA)) eN Zn (by first | rfl | lia) (by rfl)) (Aa (As (Ab (Ak (Bc (Ai (Aw (Zm aA) (by rfl) (by rfl) cN h6 (fun _=>⟨_,rfl⟩)) Zn)) (Ab (Ao aM) (by simp))) (by simp)) aM) (Aa (Ba (v':=x7.length) (Ag (At (by rfl) aA) (Zm eN)) (by rfl) aA Zn (by lia)) (Aa (An (v':=(x7.length - x7.length)) (loc':=[("self",.self x),("v_1",.int 0),("v_2",.int 0),("v_3",.int (x2.length - x2.length)),("v_4",.int (x3.length - x3.length)),("v_5",.int (x4.length - x4.length)),("v_6",.int (x5.length - x5.length)),("v_7",.int (x6.length - x6.length)),("v_8",.int (x7.length - x7.length))]) (Ag (At (by rfl) aA) (Al (by rfl) aA)) fM Zn (by first | rfl | lia) (by rfl)) (Aa (As (Ab (Ak (Bc (Ai (Aw (Zm aA) (by rfl) (by rfl) eY h7 (fun _=>⟨_,rfl⟩)) Zn)) (Ab (Ao aM) (by simp))) (by simp)) aM) (Aa (Ba (v':=x8.length) (Ag (At (by rfl) aA) (Zm fM)) (by rfl) aA Zn (by lia)) (Aa (An (v':=(x8.length - x8.length)) (loc':=[("self",.self x),("v_1",.int 0),("v_2",.int 0),("v_3",.int (x2.length - x2.length)),("v_4",.int (x3.length - x3.length)),("v_5",.int (x4.length - x4.length)),("v_6",.int (x5.length - x5.length)),("v_7",.int (x6.length - x6.length)),("v_8",.int (x7.length - x7.length)),("v_9",.int (x8.length - x8.length))]) (Ag (At (by rfl) aA) (Al (by rfl) aA)) iM Zn (by first | rfl | lia) (by rfl)) (Aa (Af (Bh (Ai (Aw (Zm aA) (by rfl) (by rfl) hJ h8 (fun _=>⟨_,rfl⟩)) Zn)) Ad) (Aa (Ba (v':=x9.length) (Ag (At (by rfl) aA) (Zm iM)) (by rfl) aA Zn (by lia)) (Aa (Af (Bh (Ai (Aw (Zm aA) (by rfl) (by rfl) fN h9 (fun _=>⟨_,rfl⟩)) Zn)) Ad) (Aa (Ba (v':=0) (Ev.gB (by rfl) aA) (by rfl) aA Zn (by lia)) (Ab (Ax Ap) (by simp))))))))))))))))))))))))))))))))) ?_
  rfl
theorem n2_1_len:(aE (stC 2 1)).names.lookup ("len" : Str)=some NameKind.globalImplicit:=by kernel_rfl
theorem eP:(aE (stC 2 1)).names.lookup ("self" : Str)=some NameKind.local:=by kernel_rfl
theorem n2_1_value:(aE (stC 2 1)).names.lookup ("value" : Str)=some NameKind.local:=by kernel_rfl
theorem fJ:(aE (stC 2 22)).names.lookup ("self" : Str)=some NameKind.local:=by kernel_rfl
theorem n2_22_word:(aE (stC 2 22)).names.lookup ("word" : Str)=some NameKind.local:=by kernel_rfl
section
variable {d:Nat} {sc:Scope} {st st₁:Sx} {loc:Loc} {x dx:Addr} {cur y:T} {c lm lb bra ket v v':Int} {p po py:Pos} {e:Expr}
theorem Ex.sCur (h:Ev d sc e st (.str y) ⟨loc,.some (x,dx,FF cur c lm lb bra ket)⟩) (hs:loc.lookup ("self" : Str)=some (.self x)) (hl:sc.names.lookup ("self" : Str)=some .local)
    (hw:∀ env:Env,swapsWith e (some (.Attribute (.Name "self" py) "current" po)) p.line env=pure false) :
    Ex d sc (.Assign [.Attribute (.Name "self" py) "current" po] e p) st .next ⟨loc,.some (x,dx,FF y c lm lb bra ket)⟩ :=
  Bv _ (Bx h (Ev.loc hs hl (by decide)) (by rfl) aU Zb cW hw) (by rfl)
theorem Ex.sL (h:Ev d sc e st (.int v) ⟨loc,.some (x,dx,FF cur c lm lb bra ket)⟩) (hs:loc.lookup ("self" : Str)=some (.self x)) (hl:sc.names.lookup ("self" : Str)=some .local)
    (hw:∀ env:Env,swapsWith e (some (.Attribute (.Name "self" py) "limit" po)) p.line env=pure false) (ev:v=v') :
    Ex d sc (.Assign [.Attribute (.Name "self" py) "limit" po] e p) st .next ⟨loc,.some (x,dx,FF cur c v' lb bra ket)⟩:=by
  subst ev
  exact Bv _ (Bx h (Ev.loc hs hl (by decide)) (by rfl) dD Zb cW hw) (by rfl)
end
theorem set_cur {d:Nat} {x dx:Addr} {cur y:T} {c lm lb bra ket:Int}:CallOK (d+1) 42 [.self x,.str y] (.some (x,dx,FF cur c lm lb bra ket)) .none (.some (x,dx,FF y 0 y.length 0 0 y.length)):=by
  refine' Au jL rfl (.inr ⟨rfl,rfl⟩) (Aa (Ex.sCur (Zm n2_1_value) (by rfl) eP Zn) (Aa (Ba (v':=0) Ae (by rfl) eP Zn (by lia)) (Aa (Ex.sL (Be n2_1_len (Ev.gCur (by rfl) eP)) (by rfl) eP Zn rfl) (Aa (Ex.sB Ae (by rfl) eP Zn rfl) (Aa (Bb (Al (by rfl) eP) (by rfl) eP Zn rfl) (Aa (Bl (At (by rfl) eP) (by rfl) eP Zn rfl) Ad)))))) ?_
  rfl
theorem set_cur0 {d:Nat} {x dx:Addr} {y:T}:CallOK (d+1) 42 [.self x,.str y] (.some (x,dx,[])) .none (.some (x,dx,FF y 0 y.length 0 0 y.length)):=by
  refine' Au jL rfl (.inr ⟨rfl,rfl⟩) (Aa (Bx Zl Zl (by rfl) aU Zb cW Zn) (Aa (Bx Ae Zl (by rfl) aJ Zb cW Zn) (Aa (Bx (Be (by rfl) (Aj Zl (by rfl) aU (by rfl) Zn)) Zl (by rfl) dD Zb cW Zn) (Aa (Bx Ae Zl (by rfl) aH Zb cW Zn) (Aa (Bx (Aj Zl (by rfl) aJ (by rfl) Zn) Zl (by rfl) f_bra Zb cW Zn) (Aa (Bx (Aj Zl (by rfl) dD (by rfl) Zn) Zl (by rfl) f_ket Zb cW Zn) Ad)))))) ?_
  rfl
noncomputable def SW (w w':T):Prop:=∀ (cur:T) (c lm lb bra ket:Int),∃ c' bra' ket':Int,∀ {d:Nat} {x dx:Addr},
  CallOK (d+6) 189 [.self x,.str w] (.some (x,dx,FF cur c lm lb bra ket)) (.str w') (.some (x,dx,FF w' c' w'.length 0 bra' ket'))
theorem stemWord_ok {w w':T} (h:PS w w'):SW w w':=fun cur c lm lb bra ket=>by
  obtain ⟨b,k1,k2,k3,h⟩:=h 0 w.length
  refine ⟨k1,k2,k3,fun {d x dx}=>?_⟩
  refine' Au nN rfl (.inl rfl) (Aa (Bg (Av (Zm fJ) (by rfl) (by rfl) hH (Ah (Zm n2_22_word) Aq) set_cur (fun _=>⟨_,rfl⟩)) (by rfl) Zn) (Aa (Bg (Aw (Zm fJ) (by rfl) (by rfl) m__stem h (fun _=>⟨_,rfl⟩)) (by rfl) Zn) (Ab (Ax (Aw (Zm fJ) (by rfl) (by rfl) kK get_cur (fun _=>⟨_,rfl⟩))) (by simp)))) ?_
  rfl
theorem wd_mem {rv:T→T} {t:List (T×Int×Int)} {e:T×Int×Int} (h:e∈t):∃ q,q < t.length∧wd rv t q=rv e.1:=by
  obtain ⟨q,hq,he⟩:=List.mem_iff_getElem.mp h
  exact ⟨q,hq,by unfold wd; rw [List.getElem?_eq_getElem hq,he]; rfl⟩
theorem wd_of {rv:T→T} {t:List (T×Int×Int)} {e:T×Int×Int} {k:Nat} (h:t[k]?=some e):wd rv t k=rv e.1:=by
  unfold wd; rw [h]; rfl
theorem fab {t:List (T×Int×Int)} (G:Good List.reverse t) {cur:T} {c:Nat} (hc:c≤cur.length) (hcl:cur.length≤60000) :
    (FAB t cur c 0 c∧∀ e∈t,¬ e.1 <:+ cur.take c)∨(∃ e∈t,e.1 <:+ cur.take c∧(∀ e'∈t,e'.1 <:+ cur.take c→e'.1 <:+ e.1)∧FAB t cur c e.2.2 (c - e.1.length)):=by
  obtain ⟨Q,hB,hC⟩:=fa_b G hc (by lia)
  cases Q with
  | none =>
    refine .inl ⟨fun {d x dx lm bra ket}=>hC,fun e he hs=>?_⟩
    obtain ⟨q,hq,e1⟩:=wd_mem (rv:=List.reverse) he
    exact hB q hq (by rw [e1]; exact List.reverse_prefix.mpr hs)
  | some e =>
    obtain ⟨k,hk,h1,h2⟩:=hB
    rw [wd_of hk] at h1 h2
    have hs:=List.reverse_prefix.mp h1
    refine .inr ⟨e,List.mem_of_getElem? hk,hs,fun e' he' hs'=>?_,fun {d x dx lm bra ket}=>?_⟩
    · obtain ⟨q,hq,e1⟩:=wd_mem (rv:=List.reverse) he'
      have:=h2 q hq (by rw [e1]; exact List.reverse_prefix.mpr hs')
      rw [e1] at this
      exact List.reverse_prefix.mp this
    · have hl:=hs.length_le
      rw [List.length_take] at hl
      have:=hC (d:=d) (x:=x) (dx:=dx) (lm:=lm) (bra:=bra) (ket:=ket)
      rw [show hitB (c:Int) (some e)=((c - e.1.length:Nat):Int) from by show (c:Int) - e.1.length=_; lia] at this
      exact this
theorem faf {t:List (T×Int×Int)} (G:Good id t) {cur:T} {c:Nat} (hc:c≤cur.length) (hcl:cur.length≤60000) :
    (FAF t cur c 0 c∧∀ e∈t,¬ e.1 <+: cur.drop c)∨(∃ e∈t,e.1 <+: cur.drop c∧(∀ e'∈t,e'.1 <+: cur.drop c→e'.1 <+: e.1)∧FAF t cur c e.2.2 (c+e.1.length)):=by
  obtain ⟨Q,hB,hC⟩:=fa_f G hc (by lia)
  cases Q with
  | none =>
    refine .inl ⟨fun {d x dx bra ket}=>hC,fun e he hs=>?_⟩
    obtain ⟨q,hq,e1⟩:=wd_mem (rv:=id) he
    exact hB q hq (by rw [e1]; exact hs)
  | some e =>
    obtain ⟨k,hk,h1,h2⟩:=hB
    rw [wd_of hk] at h1 h2
    refine .inr ⟨e,List.mem_of_getElem? hk,h1,fun e' he' hs'=>?_,fun {d x dx bra ket}=>hC⟩
    obtain ⟨q,hq,e1⟩:=wd_mem (rv:=id) he'
    have:=h2 q hq (by rw [e1]; exact hs')
    rw [e1] at this
    exact this
structure HP (cur h p:T):Prop where
  eq:cur=h++p
  no:45 ∉ p
  hy:h=[]∨∃ h',h=h'++[45]
noncomputable def Plain (t:List (T×Int×Int)):Prop:=∀ e∈t,e.1≠[]∧45 ∉ e.1∧e.2.2 = -1
theorem HP.suf {cur h p u:T} (H:HP cur h p) (hu:45 ∉ u) (hs:u <:+ cur):u <:+ p:=by
  obtain ⟨z,hz⟩:=hs
  rw [H.eq] at hz
  by_cases hl:u.length≤p.length
  · have hz':z++u=h++p:=hz
    exact List.suffix_of_suffix_length_le (⟨z,hz⟩:u <:+ h++p) (List.suffix_append h p) hl
  · exfalso
    rcases H.hy with e | ⟨h',e⟩
    · rw [e] at hz
      have:=congrArg List.length hz
      simp at this
      lia
    · rw [e] at hz
      have h1:p <:+ u:=List.suffix_of_suffix_length_le (List.suffix_append (h'++[45]) p) ⟨z,hz⟩ (by lia)
      obtain ⟨v,hv⟩:=h1
      have hv0:v≠[]:=fun q=>by rw [q] at hv; apply hl; rw [← hv]; simp
      rw [← hv,← List.append_assoc] at hz
      have h2:z++v=h'++[45]:=List.append_cancel_right hz
      have h3:(z++v).getLast?=some 45:=by rw [h2]; simp
      rw [List.getLast?_append,List.getLast?_eq_some_getLast hv0,Option.some_or] at h3
      have h4:45∈v:=Option.some.inj h3▸List.getLast_mem hv0
      exact hu (hv▸List.mem_append_left _ h4)
theorem HP.take {cur h p:T} (H:HP cur h p) {c:Nat} (h1:h.length≤c):HP (cur.take c) h (p.take (c - h.length)):=by
  refine ⟨?_,fun q=>H.no (List.mem_of_mem_take q),H.hy⟩
  rw [H.eq,List.take_append,List.take_of_length_le h1]
theorem HP.bnd {cur h p:T} (H:HP cur h p):∃ c',Bnd cur h.length c':=by
  rcases H.hy with e | ⟨h',e⟩
  · exact ⟨0,.inl ⟨by rw [e]; rfl,rfl⟩⟩
  · refine ⟨h.length - 1,.inr ⟨by rw [e]; simp,?_,rfl⟩⟩
    rw [H.eq,e]
    simp
theorem HP.nobnd {cur h p:T} (H:HP cur h p) {c:Nat} (h1:h.length < c) (h2:c≤cur.length):NoBnd cur c:=by
  have e:cur.length=h.length+p.length:=by rw [H.eq,List.length_append]
  have hlt:c - 1 - h.length < p.length:=by lia
  refine ⟨p[c - 1 - h.length],by lia,?_,fun q=>H.no (q▸List.getElem_mem hlt)⟩
  rw [H.eq,List.getElem?_append_right (by lia),List.getElem?_eq_getElem hlt]
noncomputable def cK (t:List (T×Int×Int)):List T:=t.map (·.1)
theorem mem_words {t:List (T×Int×Int)} {u:T}:u∈cK t↔∃ e∈t,e.1=u:=List.mem_map
theorem mQ {t:List (T×Int×Int)} (G:Good List.reverse t) (hp:Plain t) {cur h p:T} (H:HP cur h p) {c:Nat} (h1:h.length≤c) (h2:c≤cur.length) (hcl:cur.length≤60000) :
    (p.take (c - h.length)∈cK t∧FAB t cur c (-1) h.length)∨(p.take (c - h.length) ∉ cK t∧(FAB t cur c 0 c∨∃ c',FAB t cur c (-1) c'∧h.length < c'∧c'≤c)):=by
  have HT:=H.take h1
  have e:cur.length=h.length+p.length:=by rw [H.eq,List.length_append]
  have eX:cur.take c=h++p.take (c - h.length):=HT.eq
  have hql:(p.take (c - h.length)).length=c - h.length:=by rw [List.length_take]; lia
  rcases fab G h2 hcl with ⟨hF,hno⟩ | ⟨en,hen,hs,hmax,hF⟩
  · refine .inr ⟨fun q=>?_,.inl hF⟩
    obtain ⟨e',he',e1⟩:=mem_words.mp q
    exact hno e' he' (by rw [e1,eX]; exact List.suffix_append _ _)
  · obtain ⟨k1,k2,k3⟩:=hp en hen
    rw [k3] at hF
    have hsq:=HT.suf k2 hs
    by_cases hq:p.take (c - h.length)∈cK t
    · obtain ⟨e',he',e1⟩:=mem_words.mp hq
      have h3:=hmax e' he' (by rw [e1,eX]; exact List.suffix_append _ _)
      rw [e1] at h3
      have h4:en.1=p.take (c - h.length):=hsq.eq_of_length_le h3.length_le
      refine .inl ⟨hq,?_⟩
      rw [h4,hql,show c - (c - h.length)=h.length by lia] at hF
      exact hF
    · refine .inr ⟨hq,.inr ⟨_,hF,?_,by lia⟩⟩
      have hne:en.1≠p.take (c - h.length):=fun q=>hq (mem_words.mpr ⟨en,hen,q⟩)
      have hll:=hsq.length_le
      have:en.1.length≠(p.take (c - h.length)).length:=fun q=>hne (hsq.eq_of_length q)
      lia
theorem kI {t:List (T×Int×Int)} (h:(t.all fun e=>!e.1.isEmpty && !e.1.contains 45 && e.2.2 == -1)=true):Plain t:=fun e he=>by
  have:=List.all_eq_true.mp h e he
  simp only [Bool.and_eq_true,Bool.not_eq_true',beq_iff_eq] at this
  obtain ⟨⟨a,b⟩,c⟩:=this
  refine ⟨fun q=>?_,fun q=>?_,c⟩
  · rw [q] at a; cases a
  · rw [List.contains_iff_mem.mpr q] at b; cases b
theorem pl2:Plain A2:=kI (by decide +kernel)
theorem pl3:Plain A3:=kI (by decide +kernel)
theorem pl4:Plain A4:=kI (by decide +kernel)
theorem pl5:Plain A5:=kI (by decide +kernel)
theorem pl8:Plain A8:=kI (by decide +kernel)
noncomputable def PRON:List T:=[[109,105],[99,105],[118,105],[105,118,105],[108,105],[105,108,105],[349,108,105],[114,105],[103,105],[285,105],[104,105],[349,105],[105,349,105],[109,97,108,349,105],[110,105],[111,110,105],[115,105]]
noncomputable def VERB:List T:=[[39,115,116,105],[39,115,116,117],[39,115,116,97,115],[39,115,116,105,115],[39,115,116,111,115],[39,115,116,117,115]]
noncomputable def ADV:List T:=[[97,109,98],[98,97,108,100],[109,97,108,98,97,108,100],[109,111,114,103],[112,111,115,116,109,111,114,103],[97,100,105],[104,111,100,105],[97,110,107],[265,105,114,107],[116,117,116,265,105,114,107],[112,114,101,115,107],[97,108,109,101,110],[97,112,101,110],[104,105,101,114],[97,110,116,97,365,104,105,101,114],[109,97,108,103,114],[97,110,107,111,114],[107,111,110,116,114],[97,110,115,116,97,116],[107,118,97,122]]
noncomputable def kE:List T:=[[105,101],[107,105,101],[107,101,108,107,105,101],[110,101,110,105,101],[116,105,101],[109,117,108,116,105,101],[115,97,109,116,105,101],[265,105,101]]
noncomputable def lD:List T:=[[105,97],[107,105,97],[107,101,108,107,105,97],[110,101,110,105,97],[116,105,97],[109,117,108,116,105,97],[115,97,109,116,105,97],[265,105,97],[105,111],[107,105,111],[107,101,108,107,105,111],[110,101,110,105,111],[116,105,111],[109,117,108,116,105,111],[115,97,109,116,105,111],[265,105,111],[105,117],[107,105,117],[107,101,108,107,105,117],[110,101,110,105,117],[116,105,117],[109,117,108,116,105,117],[115,97,109,116,105,117],[265,105,117]]
noncomputable def STAY:List T:=[[97,104,97],[104,97,104,97],[293,97,293,97],[101,104,101],[111,104,111],[117,104,117],[109,117,117],[104,97,108,101,108,117,106,97],[104,111,108,97],[104,111,115,97,110,97],[104,117,114,97],[109,97,108,116,114,97],[109,97,108,116,114,101],[109,97,108,116,114,111],[109,97,108,112,108,105],[109,97,108,265,105],[109,97,108,107,97,106],[101,107,100,101],[101,108,100,101],[100,105,115,100,101],[100,105,114,108,105,100,105,100,105],[97,109,101,110],[116,97,109,101,110],[109,105,110,117,115]]
noncomputable def NUMR:List T:=[[100,101,107,117,110,117],[100,101,107,100,117],[100,101,107,116,114,105],[99,101,110,116,117,110,117],[99,101,110,116,100,117],[99,101,110,116,116,114,105]]
noncomputable def ONES:List T:=[[117,110,117],[97,108,105,117]]
noncomputable def ENDS:List T:=[[97],[101],[105],[111],[117],[97,115],[105,115],[111,115],[117,115],[106],[110],[97,106,110],[97,106],[111,106],[97,110],[101,110],[111,110],[106,110],[111,106,110]]
noncomputable def PIEC:List T:=[[97],[101],[105],[111],[117],[98],[99],[100],[102],[103],[104],[106],[107],[108],[109],[110],[112],[114],[115],[116],[118],[122],[113],[119],[120],[121],[265],[285],[293],[309],[349],[365],[225],[233],[237],[243],[250],[48],[49],[50],[51],[52],[53],[54],[55],[56],[57],[45],[39],[65],[78],[252],[32],[99,120],[103,120],[104,120],[106,120],[115,120],[117,120],[250,120],[100,111,109],[107,97,116],[98,101,108],[109,97,108],[100,101,107],[99,101,110,116],[101,115,116],[115,116]]
noncomputable def bT (ch:Nat) (p:T):T:=if p.getLast?=some ch then p.dropLast else p
noncomputable def eD (p:T) (offs bases:List T):Option T:=offs.findSome? fun off=>if p.take (p.length - off.length)∈bases∧p.take (p.length - off.length)++off=p then some (p.take (p.length - off.length)) else none
theorem mH {ch:Nat} {b:T}:bT ch (b++[ch])=b:=by unfold bT; rw [if_pos (by simp)]; simp
theorem gY {ch:Nat} {b:T} (h:b.getLast?≠some ch):bT ch b=b:=if_neg h
theorem mG (ch:Nat) (p:T):(p=bT ch p∧p.getLast?≠some ch)∨p=bT ch p++[ch]:=by
  by_cases h:p.getLast?=some ch
  · refine .inr ?_
    unfold bT
    rw [if_pos h]
    obtain ⟨ys,rfl⟩:=List.getLast?_eq_some_iff.mp h
    simp
  · exact .inl ⟨(gY h).symm,h⟩
theorem bare_if {p b off:T} {bases:List T} (h:b++off=p):(p.take (p.length - off.length)∈bases∧p.take (p.length - off.length)++off=p)↔b∈bases:=by
  have:p.take (p.length - off.length)=b:=by rw [← h]; simp
  rw [this]
  exact ⟨fun q=>q.1,fun q=>⟨q,h⟩⟩
theorem bare_no {p off:T} {bases:List T} (h:¬ ∃ b∈bases,b++off=p):¬ (p.take (p.length - off.length)∈bases∧p.take (p.length - off.length)++off=p):=fun q=>h ⟨_,q.1,q.2⟩
theorem bareN {p:T} {bases:List T} (hb:∀ b∈bases,b.getLast?≠some 110):eD p [[],[110]] bases=if bT 110 p∈bases then some (bT 110 p) else none:=by
  unfold eD
  simp only [List.findSome?_cons,List.findSome?_nil]
  rcases mG 110 p with ⟨h,h0⟩ | h
  · have n1:¬ (p.take (p.length - ([110]:T).length)∈bases∧p.take (p.length - ([110]:T).length)++[110]=p):=bare_no fun ⟨b,_,e⟩=>h0 (by rw [← e]; simp)
    rw [if_neg n1,← h]
    have i1:=bare_if (p:=p) (b:=p) (off:=[]) (bases:=bases) (by simp)
    by_cases hm:p∈bases
    · rw [if_pos (i1.mpr hm),if_pos hm]; simp
    · rw [if_neg (fun q=>hm (i1.mp q)),if_neg hm]
  · have n1:¬ (p.take (p.length - ([]:T).length)∈bases∧p.take (p.length - ([]:T).length)++[]=p):=bare_no fun ⟨b,hbm,e⟩=>hb b hbm (by rw [List.append_nil] at e; rw [e,h]; simp)
    rw [if_neg n1]
    have i1:=bare_if (p:=p) (b:=bT 110 p) (off:=[110]) (bases:=bases) h.symm
    have e1:p.take (p.length - ([110]:T).length)=bT 110 p:=by
      have:∀ z:T,(z++[110]).take ((z++[110]).length - ([110]:T).length)=z:=fun z=>by simp
      have h9:=this (bT 110 p)
      rw [← h] at h9
      exact h9
    by_cases hm:bT 110 p∈bases
    · rw [if_pos (i1.mpr hm),if_pos hm,e1]
    · rw [if_neg (fun q=>hm (i1.mp q)),if_neg hm]
theorem lS {p b:T} {bases:List T}:∀ {offs:List T},eD p offs bases=some b→b∈bases∧∃ off∈offs,b++off=p
  | [],h=>by cases h
  | off::r,h=>by
    unfold eD at h
    rw [List.findSome?_cons] at h
    by_cases hc:p.take (p.length - off.length)∈bases∧p.take (p.length - off.length)++off=p
    · rw [if_pos hc] at h
      cases h
      exact ⟨hc.1,off,List.mem_cons_self,hc.2⟩
    · rw [if_neg hc] at h
      obtain ⟨h1,o,h2,h3⟩:=lS (offs:=r) h
      exact ⟨h1,o,List.mem_cons_of_mem _ h2,h3⟩
theorem bare_none {p:T} {bases:List T}:∀ {offs:List T},eD p offs bases=none→∀ b∈bases,∀ off∈offs,b++off≠p
  | [],h,b,_,o,ho,_=>by cases ho
  | off::r,h,b,hb,o,ho,e=>by
    unfold eD at h
    rw [List.findSome?_cons] at h
    by_cases hc:p.take (p.length - off.length)∈bases∧p.take (p.length - off.length)++off=p
    · rw [if_pos hc] at h
      cases h
    · rw [if_neg hc] at h
      rcases List.mem_cons.mp ho with q | q
      · subst q
        exact hc ((bare_if e).mpr hb)
      · exact bare_none (offs:=r) h b hb o q e
theorem stripJN {bases:List T} (hb:∀ b∈bases,b.getLast?≠some 110∧b.getLast?≠some 106) {p b:T} (h:b∈bases) {off:T} (ho:off∈[[],[110],[106],[106,110]]) (e:b++off=p):bT 106 (bT 110 p)=b:=by
  obtain ⟨h1,h2⟩:=hb b h
  simp only [List.mem_cons,List.not_mem_nil,or_false] at ho
  subst e
  rcases ho with rfl | rfl | rfl | rfl
  · rw [List.append_nil,gY h1,gY h2]
  · rw [mH,gY h2]
  · rw [gY (ch:=110) (by simp),mH]
  · rw [show b++[106,110]=(b++[106])++[110] by simp,mH,mH]
theorem bareJN {p:T} {bases:List T} (hb:∀ b∈bases,b.getLast?≠some 110∧b.getLast?≠some 106):eD p [[],[110],[106],[106,110]] bases=if bT 106 (bT 110 p)∈bases then some (bT 106 (bT 110 p)) else none:=by
  cases hq:eD p [[],[110],[106],[106,110]] bases with
  | some b =>
    obtain ⟨h1,off,h2,h3⟩:=lS hq
    rw [stripJN hb h1 h2 h3,if_pos h1]
  | none =>
    rw [if_neg]
    intro hm
    have h0:=bare_none hq _ hm
    rcases mG 110 p with ⟨h,_⟩ | h
    · rcases mG 106 (bT 110 p) with ⟨h',_⟩ | h'
      · exact h0 [] (by simp) (by rw [List.append_nil,← h',← h])
      · exact h0 [106] (by simp) (by rw [← h',← h])
    · rcases mG 106 (bT 110 p) with ⟨h',_⟩ | h'
      · exact h0 [110] (by simp) (by rw [← h']; exact h.symm)
      · refine h0 [106,110] (by simp) ?_
        rw [show bT 106 (bT 110 p)++[106,110]=(bT 106 (bT 110 p)++[106])++[110] by simp,← h']
        exact h.symm
noncomputable def endNo (ch:Nat) (l:List T):Bool:=l.all fun b=>!(b.getLast? == some ch)
theorem hX {ch:Nat} {l:List T} (h:endNo ch l=true):∀ b∈l,b.getLast?≠some ch:=fun b hb e=>by
  have:=List.all_eq_true.mp h b hb
  rw [e] at this
  simp at this
theorem eN_pron:∀ b∈PRON,b.getLast?≠some 110:=hX (by decide +kernel)
theorem eN_where:∀ b∈kE,b.getLast?≠some 110:=hX (by decide +kernel)
theorem eJN_which:∀ b∈lD,b.getLast?≠some 110∧b.getLast?≠some 106:=fun b hb=>⟨hX (ch:=110) (by decide +kernel) b hb,hX (ch:=106) (by decide +kernel) b hb⟩
theorem eJN_ones:∀ b∈ONES,b.getLast?≠some 110∧b.getLast?≠some 106:=fun b hb=>⟨hX (ch:=110) (by decide +kernel) b hb,hX (ch:=106) (by decide +kernel) b hb⟩
theorem HP.len {cur h p:T} (H:HP cur h p):cur.length=h.length+p.length:=by rw [H.eq,List.length_append]
theorem HP.is_last {cur h p:T} (H:HP cur h p) {ch c:Nat} (hc:ch≠45) (h1:h.length≤c) (h2:c≤cur.length):Is ch cur c↔(p.take (c - h.length)).getLast?=some ch:=by
  have e:=H.len
  by_cases h0:h.length=c
  · subst h0
    rw [Nat.sub_self,List.take_zero]
    refine ⟨fun ⟨a,b⟩=>?_,fun q=>by cases q⟩
    rcases H.hy with e' | ⟨h',e'⟩
    · rw [e'] at a; cases a
    · rw [H.eq,e'] at b
      simp at b
      exact (hc b.symm).elim
  · have hl:(p.take (c - h.length)).length=c - h.length:=by rw [List.length_take]; lia
    rw [List.getLast?_eq_getElem?,hl,List.getElem?_take_of_lt (by lia)]
    unfold Is
    rw [show cur[c - 1]?=p[c - h.length - 1]? from by rw [H.eq,List.getElem?_append_right (by lia),show c - 1 - h.length=c - h.length - 1 by lia]]
    exact ⟨fun q=>q.2,fun q=>⟨by lia,q⟩⟩
theorem jY {ch:Nat} {cur:T} {n:Nat} (h:n≤cur.length) (h':¬ Is ch cur n):Isnt ch cur n:=(is_or ch cur n h).resolve_left h'
theorem iK {cur h p:T} (H:HP cur h p) {ch n:Nat} (hc:ch≠45) (h1:h.length≤n) (h2:n≤cur.length):∃ c,Opt ch cur n c∧h.length≤c∧c≤cur.length∧p.take (c - h.length)=bT ch (p.take (n - h.length)):=by
  have e:=H.len
  have hi:=H.is_last hc h1 h2
  by_cases hq:(p.take (n - h.length)).getLast?=some ch
  · have hI:=hi.mpr hq
    have hn:h.length≠n:=fun q=>by rw [q,Nat.sub_self,List.take_zero] at hq; cases hq
    refine ⟨n - 1,.inl ⟨hI.1,hI.2,rfl⟩,by lia,by lia,?_⟩
    unfold bT
    rw [if_pos hq,List.dropLast_eq_take,List.length_take,List.take_take]
    congr 1
    lia
  · refine ⟨n,.inr ⟨jY h2 fun q=>hq (hi.mp q),rfl⟩,h1,h2,(gY hq).symm⟩
theorem HP.takeEq {cur h p:T} (H:HP cur h p) {c:Nat} (h1:h.length≤c):cur.take c=h++p.take (c - h.length):=(H.take h1).eq
noncomputable def sub (a b:List T):Bool:=a.all fun x=>b.contains x
theorem dC {a b:List T} (h:sub a b=true) {x:T} (hx:x∈a):x∈b:=List.contains_iff_mem.mp (List.all_eq_true.mp h x hx)
theorem pron_mem {x:T}:x∈cK A2↔x∈PRON:=⟨dC (by decide +kernel),dC (by decide +kernel)⟩
theorem adv_mem {x:T}:x∈cK A3↔x∈ADV:=⟨dC (by decide +kernel),dC (by decide +kernel)⟩
theorem ones_mem {x:T}:x∈cK A4↔x∈ONES:=⟨dC (by decide +kernel),dC (by decide +kernel)⟩
theorem stay_mem {x:T}:x∈cK A5↔x∈STAY:=⟨dC (by decide +kernel),dC (by decide +kernel)⟩
theorem HP.hl {cur h p:T} (H:HP cur h p):h.length≤cur.length:=by have:=H.len; lia
theorem HP.whole {cur h p:T} (H:HP cur h p):p.take (cur.length - h.length)=p:=by rw [H.len,Nat.add_sub_cancel_left,List.take_length]
theorem gW:(-1:Int)≠0:=by decide
theorem pron_law {cur h p:T} (H:HP cur h p) (hcl:cur.length≤60000):(bT 110 p∈PRON→PR 252 cur true (h++bT 110 p))∧(bT 110 p ∉ PRON→PR 252 cur false cur):=by
  obtain ⟨c1,ho,h1,h2,e1⟩:=iK H (ch:=110) (by decide) H.hl (Nat.le_refl _)
  rw [H.whole] at e1
  have T:=mQ g2 pl2 H h1 h2 hcl
  have e2:=H.takeEq h1
  rw [e1] at T e2
  refine ⟨fun hm=>?_,fun hm=>?_⟩
  · rcases T with ⟨_,hF⟩ | ⟨hn,_⟩
    · obtain ⟨c',hb⟩:=H.bnd
      rw [← e2]
      exact pron2_yes (c2:=0) (c5:=0) (q':=0) hcl ho hF gW hb
    · exact (hn (pron_mem.mpr hm)).elim
  · rcases T with ⟨hn,_⟩ | ⟨_,hF | ⟨c',hF,a,b⟩⟩
    · exact (hm (pron_mem.mp hn)).elim
    · exact pron2_none (c2:=0) (c4:=0) (c5:=0) (q':=0) hcl ho hF rfl
    · exact pron2_no (c2:=0) (c4:=0) (c5:=0) (q':=0) hcl ho hF gW (H.nobnd a (by lia))
theorem unin_law {cur h p:T} (H:HP cur h p) (hcl:cur.length≤60000):(p∈STAY→PR 273 cur true cur)∧(p ∉ STAY→PR 273 cur false cur):=by
  have T:=mQ g5 pl5 H H.hl (Nat.le_refl _) hcl
  rw [H.whole] at T
  refine ⟨fun hm=>?_,fun hm=>?_⟩
  · rcases T with ⟨_,hF⟩ | ⟨hn,_⟩
    · obtain ⟨c',hb⟩:=H.bnd
      exact unin_yes (c3:=0) (c4:=0) (c5:=0) (q':=0) hcl hF gW hb
    · exact (hn (stay_mem.mpr hm)).elim
  · rcases T with ⟨hn,_⟩ | ⟨_,hF | ⟨c',hF,a,b⟩⟩
    · exact (hm (stay_mem.mp hn)).elim
    · exact unin_none (c2:=0) (c3:=0) (c4:=0) (c5:=0) (q':=0) hcl hF rfl
    · exact unin_no (c2:=0) (c3:=0) (c4:=0) (c5:=0) (q':=0) hcl hF gW (H.nobnd a (by lia))
theorem ujn_law {cur h p:T} (H:HP cur h p) (hcl:cur.length≤60000):(bT 106 (bT 110 p)∈ONES→PR 266 cur true (h++bT 106 (bT 110 p)))∧(bT 106 (bT 110 p) ∉ ONES→PR 266 cur false cur):=by
  obtain ⟨c1,ho,h1,h2,e1⟩:=iK H (ch:=110) (by decide) H.hl (Nat.le_refl _)
  rw [H.whole] at e1
  obtain ⟨c2,ho2,h3,h4,e2⟩:=iK H (ch:=106) (by decide) h1 h2
  rw [e1] at e2
  have T:=mQ g4 pl4 H h3 h4 hcl
  have e3:=H.takeEq h3
  rw [e2] at T e3
  refine ⟨fun hm=>?_,fun hm=>?_⟩
  · rcases T with ⟨_,hF⟩ | ⟨hn,_⟩
    · obtain ⟨c',hb⟩:=H.bnd
      rw [← e3]
      exact ujn_yes (c5:=0) (q':=0) hcl ho ho2 hF gW hb
    · exact (hn (ones_mem.mpr hm)).elim
  · rcases T with ⟨hn,_⟩ | ⟨_,hF | ⟨c',hF,a,b⟩⟩
    · exact (hm (ones_mem.mp hn)).elim
    · exact ujn_none (c4:=0) (c5:=0) (q':=0) hcl ho ho2 hF rfl
    · exact ujn_no (c4:=0) (c5:=0) (q':=0) hcl ho ho2 hF gW (H.nobnd a (by lia))
theorem HP.char {cur h p:T} (H:HP cur h p) {c:Nat} (h1:h.length < c) (h2:c≤cur.length):∃ ch,0 < c∧cur[c - 1]?=some ch∧(p.take (c - h.length)).getLast?=some ch∧ch≠45:=by
  have e:=H.len
  have hlt:c - 1 - h.length < p.length:=by lia
  refine ⟨p[c - 1 - h.length],by lia,?_,?_,fun q=>H.no (q▸List.getElem_mem hlt)⟩
  · rw [H.eq,List.getElem?_append_right (by lia),List.getElem?_eq_getElem hlt]
  · have hl:(p.take (c - h.length)).length=c - h.length:=by rw [List.length_take]; lia
    rw [List.getLast?_eq_getElem?,hl,List.getElem?_take_of_lt (by lia),show c - h.length - 1=c - 1 - h.length by lia,List.getElem?_eq_getElem hlt]
theorem HP.char0 {cur h p:T} (H:HP cur h p):h.length=0∨(0 < h.length∧cur[h.length - 1]?=some 45):=by
  rcases H.hy with e | ⟨h',e⟩
  · exact .inl (by rw [e]; rfl)
  · refine .inr ⟨by rw [e]; simp,?_⟩
    rw [H.eq,e]
    simp
theorem HP.noHead {cur h p:T} (H:HP cur h p) (hn:45 ∉ cur):h=[]∧p=cur:=by
  rcases H.hy with e | ⟨h',e⟩
  · exact ⟨e,by rw [H.eq,e]; rfl⟩
  · exact (hn (by rw [H.eq,e]; simp)).elim
theorem kF {p:T} {n:Nat} {ch:Nat} (h0:0 < n) (hn:n≤p.length) (h:(p.take n).getLast?=some ch):p.take n=p.take (n - 1)++[ch]:=by
  obtain ⟨ys,e⟩:=List.getLast?_eq_some_iff.mp h
  have hl:ys.length=n - 1:=by
    have:=congrArg List.length e
    rw [List.length_take,List.length_append] at this
    simp at this
    lia
  have h2:(p.take n).take (n - 1)=ys:=by rw [e,← hl,List.take_left']; rfl
  rw [List.take_take,show min (n - 1) n=n - 1 by lia] at h2
  rw [e,h2]
noncomputable def apo (w p:T):T:=if w=[108,39] then [108,97] else if w=[117,110,39] then [117,110,117] else if p.dropLast∈ADV then p.dropLast++[97,365] else p.dropLast++[111]
theorem fap_law {cur h p:T} (H:HP cur h p) (hcl:cur.length≤60000):(p.getLast?≠some 39→PR 259 cur false cur)∧(p.getLast?=some 39→PR 259 cur true (h++apo cur p)):=by
  have hi:=H.is_last (ch:=39) (by decide) H.hl (Nat.le_refl _)
  rw [H.whole] at hi
  have hL:=H.len
  refine ⟨fun hq=>fap_no (c1:=0) (c2:=0) (c3:=0) (c4:=0) (c5:=0) (q:=0) (q':=0) hcl (jY (Nat.le_refl _) fun q=>hq (hi.mp q)),fun hq=>?_⟩
  have hI:=hi.mpr hq
  have hp0:0 < p.length:=by
    cases p with
    | nil=>cases hq
    | cons a r=>simp
  have hle:cur.length - 1≤cur.length:=by lia
  have hn1:h.length≤cur.length - 1:=by lia
  refine fap_yes hcl hI rfl ?_
  have hcut:p.take (cur.length - 1 - h.length)=p.dropLast:=by rw [List.dropLast_eq_take]; congr 1; lia
  have htk:cur.take (cur.length - 1)=h++p.dropLast:=by rw [H.takeEq hn1,hcut]
  obtain ⟨ys,hys⟩:=List.getLast?_eq_some_iff.mp hq
  have hpd:p.dropLast=ys:=by rw [hys]; simp
  have hcur:cur=(h++p.dropLast)++[39]:=by rw [hpd,H.eq,hys,List.append_assoc]
  unfold apo
  by_cases w1:cur=[108,39]
  · rw [if_pos w1]
    obtain ⟨e1,e2⟩:=H.noHead (by rw [w1]; decide)
    have:=fw_l (n:=cur.length - 1) (c2:=0) (c3:=0) (c4:=0) (q:=0) hcl hle (by rw [w1]; exact ⟨by decide,rfl⟩) (by rw [w1]; rfl)
    rw [e1]
    rw [show cur.take (cur.length - 1)++[97]=[108,97] from by rw [w1]; rfl] at this
    exact this
  · rw [if_neg w1]
    have H1:Isnt 108 cur (cur.length - 1)∨(Is 108 cur (cur.length - 1)∧1 < cur.length - 1):=by
      rcases is_or 108 cur (cur.length - 1) hle with k | k
      · refine .inr ⟨k,?_⟩
        have k0:=k.1
        by_cases h9:1 < cur.length - 1
        · exact h9
        · exfalso
          have h8:cur.length=2:=by lia
          match cur,h8 with
          | [a,b],_ =>
            have k1:=k.2
            have k2:=hI.2
            simp at k1 k2
            exact w1 (by rw [k1,k2])
      · exact .inl k
    by_cases w2:cur=[117,110,39]
    · rw [if_pos w2]
      obtain ⟨e1,e2⟩:=H.noHead (by rw [w2]; decide)
      have hu:EQB [117,110] cur (cur.length - 1) true 0:=by
        have this:EQB [117,110] cur (cur.length - 1) true (cur.length - 1 - ([117,110]:T).length):=eqb_yes (y:=[117,110]) (cur:=cur) (n:=cur.length - 1) hle (by rw [w2]; exact ⟨[],rfl⟩)
        rw [show cur.length - 1 - ([117,110]:T).length=0 from by rw [w2]; rfl] at this
        exact @this
      have:=fw_un (n:=cur.length - 1) (c2:=0) (c3:=0) (c4:=0) (q:=0) hcl hle H1 hu
      rw [e1]
      rw [show cur.take (cur.length - 1)++[117]=[117,110,117] from by rw [w2]; rfl] at this
      exact this
    · rw [if_neg w2]
      have H2:EQB [117,110] cur (cur.length - 1) false (cur.length - 1)∨(EQB [117,110] cur (cur.length - 1) true (cur.length - 1 - 2)∧0 < cur.length - 1 - 2):=by
        by_cases hs:[117,110] <:+ cur.take (cur.length - 1)
        · refine .inr ⟨eqb_yes hle hs,?_⟩
          by_cases h9:0 < cur.length - 1 - 2
          · exact h9
          · exfalso
            have hsl:=hs.length_le
            rw [List.length_take] at hsl
            simp at hsl
            have h5:([117,110]:T)=cur.take (cur.length - 1):=hs.eq_of_length (by rw [List.length_take]; simp; lia)
            rw [htk] at h5
            rw [← h5] at hcur
            exact w2 hcur
        · exact .inl (eqb_no hle hs)
      have T:=mQ g3 pl3 H hn1 hle hcl
      rw [hcut] at T
      by_cases w3:p.dropLast∈ADV
      · rw [if_pos w3,← List.append_assoc,← htk]
        rcases T with ⟨_,hF⟩ | ⟨hn,_⟩
        · obtain ⟨c',hb⟩:=H.bnd
          exact fw_adv hcl hle H1 H2 hF gW hb
        · exact (hn (adv_mem.mpr w3)).elim
      · rw [if_neg w3,← List.append_assoc,← htk]
        rcases T with ⟨hn,_⟩ | ⟨_,hF | ⟨c',hF,a,b⟩⟩
        · exact (w3 (adv_mem.mp hn)).elim
        · exact fw_o (c4:=0) hcl hle H1 H2 hF (.inl rfl)
        · exact fw_o (c4:=0) hcl hle H1 H2 hF (.inr ⟨gW,H.nobnd a (by lia)⟩)
theorem apo_plain {cur h p:T} (H:HP cur h p):45 ∉ apo cur p:=by
  have hd:45 ∉ p.dropLast:=fun q=>H.no (List.dropLast_subset _ q)
  unfold apo
  split
  · decide
  · split
    · decide
    · split <;> simp [hd]
theorem HP.put {cur h p p':T} (H:HP cur h p) (hn:45 ∉ p'):HP (h++p') h p':=⟨rfl,hn,H.hy⟩
theorem nT {cur h p:T} (H:HP cur h p) (hcl:cur.length≤60000) {b:Nat} (h1:h.length < b) (h2:b≤cur.length) (hw:CW cur .next b (b - 1)) :
    ((∃ x,(x=[]∨x∈cK A8)∧p.take (b - 1 - h.length)=x++[105])→PR 287 cur true (cur.take b))∧((¬ ∃ x,(x=[]∨x∈cK A8)∧p.take (b - 1 - h.length)=x++[105])→PR 287 cur false cur):=by
  have hL:=H.len
  have hi:=H.is_last (ch:=105) (c:=b - 1) (by decide) (by lia) (by lia)
  by_cases hI:Is 105 cur (b - 1)
  · have hq:=hi.mp hI
    have h3:h.length≠b - 1:=fun q=>by rw [q,Nat.sub_self,List.take_zero] at hq; cases hq
    have hs:=kF (by lia) (by lia) hq
    have T:=mQ g8 pl8 H (c:=b - 1 - 1) (by lia) (by lia) hcl
    rw [show b - 1 - h.length - 1=b - 1 - 1 - h.length by lia] at hs
    have hiff:(∃ x,(x=[]∨x∈cK A8)∧p.take (b - 1 - h.length)=x++[105])↔(p.take (b - 1 - 1 - h.length)=[]∨p.take (b - 1 - 1 - h.length)∈cK A8):=by
      rw [hs]
      refine ⟨fun ⟨x,a,e⟩=>?_,fun a=>⟨_,a,rfl⟩⟩
      rw [List.append_cancel_right e]
      exact a
    rw [hiff]
    refine ⟨fun hx=>?_,fun hx=>?_⟩
    · rcases T with ⟨_,hF⟩ | ⟨hn,hF⟩
      · obtain ⟨c',hb⟩:=H.bnd
        exact corr_yes (c3:=0) (q':=0) hcl hw hI hF (fun q=>by cases q) hb h2
      · have h0:p.take (b - 1 - 1 - h.length)=[]:=hx.resolve_right hn
        have h4:b - 1 - 1=h.length:=by
          have:=congrArg List.length h0
          rw [List.length_take,List.length_nil] at this
          lia
        rcases hF with hF | ⟨c',hF,a,b'⟩
        · obtain ⟨c',hb⟩:=H.bnd
          rw [← h4] at hb
          exact corr_yes (c3:=0) (q':=0) hcl hw hI hF Zn hb h2
        · lia
    · rcases T with ⟨hn,_⟩ | ⟨_,hF⟩
      · exact (hx (.inr hn)).elim
      · have h4:b - 1 - 1≠h.length:=fun q=>hx (.inl (by rw [q,Nat.sub_self,List.take_zero]))
        rcases hF with hF | ⟨c',hF,a,b'⟩
        · exact corr_no (c3:=0) (c5:=0) (q':=0) hcl hw hI hF Zn (H.nobnd (by lia) (by lia))
        · exact corr_no (c3:=0) (c5:=0) (q':=0) hcl hw hI hF (fun q=>by cases q) (H.nobnd a (by lia))
  · refine ⟨fun ⟨x,_,e⟩=>?_,fun _=>corr_i (c3:=0) (c4:=0) (c5:=0) (q:=0) (q':=0) hcl hw (jY (by lia) hI)⟩
    exact (hI (hi.mpr (by rw [e]; simp))).elim
theorem where_mem {s:T}:s∈kE↔∃ x,(x=[]∨x∈cK A8)∧s=x++[105,101]:=by
  have e:s∈kE↔s∈(([]:T)::cK A8).map (·++[105,101]):=⟨dC (by decide +kernel),dC (by decide +kernel)⟩
  rw [e,List.mem_map]
  simp only [List.mem_cons]
  exact ⟨fun ⟨x,a,b⟩=>⟨x,a,b.symm⟩,fun ⟨x,a,b⟩=>⟨x,a,b.symm⟩⟩
theorem which_mem {s:T}:s∈lD↔∃ x v,(x=[]∨x∈cK A8)∧v∈([97,111,117]:T)∧s=x++[105,v]:=by
  have e:s∈lD↔s∈(([]:T)::cK A8).flatMap (fun x=>([97,111,117]:T).map fun v=>x++[105,v]):=⟨dC (by decide +kernel),dC (by decide +kernel)⟩
  rw [e,List.mem_flatMap]
  simp only [List.mem_map]
  refine ⟨fun ⟨x,a,v,b,c⟩=>⟨x,v,List.mem_cons.mp a,b,c.symm⟩,fun ⟨x,v,a,b,c⟩=>⟨x,List.mem_cons.mpr a,v,b,c.symm⟩⟩
theorem corr_law {cur h p:T} (H:HP cur h p) (hcl:cur.length≤60000):(bT 110 p∈kE→PR 287 cur true (h++bT 110 p)) ∧
    (bT 110 p ∉ kE→bT 106 (bT 110 p)∈lD→PR 287 cur true (h++bT 106 (bT 110 p)))∧(bT 110 p ∉ kE→bT 106 (bT 110 p) ∉ lD→PR 287 cur false cur):=by
  have hL:=H.len
  obtain ⟨c1,ho,h1,h2,e1⟩:=iK H (ch:=110) (by decide) H.hl (Nat.le_refl _)
  rw [H.whole] at e1
  have hi:=H.is_last (ch:=101) (c:=c1) (by decide) h1 h2
  rw [e1] at hi
  have e3:=H.takeEq h1
  rw [e1] at e3
  by_cases hI:Is 101 cur c1
  · have hq:=hi.mp hI
    have h3:h.length≠c1:=fun q=>by rw [← e1,q,Nat.sub_self,List.take_zero] at hq; cases hq
    have hs:=kF (p:=p) (n:=c1 - h.length) (ch:=101) (by lia) (by lia) (by rw [e1]; exact hq)
    rw [e1,show c1 - h.length - 1=c1 - 1 - h.length by lia] at hs
    have C:=nT H hcl (by lia) h2 (cw_e (c2:=0) (c3:=0) ho hI)
    have hiff:bT 110 p∈kE↔∃ x,(x=[]∨x∈cK A8)∧p.take (c1 - 1 - h.length)=x++[105]:=by
      rw [where_mem,hs]
      refine ⟨fun ⟨x,a,e⟩=>⟨x,a,?_⟩,fun ⟨x,a,e⟩=>⟨x,a,by rw [e,List.append_assoc]; rfl⟩⟩
      rw [show x++[105,101]=(x++[105])++[101] by simp] at e
      exact List.append_cancel_right e
    rw [← hiff,e3] at C
    have hj:bT 106 (bT 110 p) ∉ lD:=by
      rw [gY (ch:=106) (by rw [hq]; decide)]
      intro hm
      exact hX (ch:=101) (l:=lD) (by decide +kernel) _ hm hq
    exact ⟨C.1,fun _ hm=>(hj hm).elim,fun hn _=>C.2 hn⟩
  · have hIn:=jY h2 hI
    have hnw:bT 110 p ∉ kE:=fun hm=>by
      obtain ⟨x,_,e⟩:=where_mem.mp hm
      exact hI (hi.mpr (by rw [e]; simp))
    obtain ⟨c2,ho2,h3,h4,e2⟩:=iK H (ch:=106) (by decide) h1 h2
    rw [e1] at e2
    have e4:=H.takeEq h3
    rw [e2] at e4
    refine ⟨fun hm=>(hnw hm).elim,?_,?_⟩
    all_goals
      intro _ hm
    · obtain ⟨x,v,hx,hv,e⟩:=which_mem.mp hm
      have hc:h.length≠c2:=fun q=>by rw [← e2,q,Nat.sub_self,List.take_zero] at e; exact absurd e (by simp)
      obtain ⟨ch,k0,k1,k2,_⟩:=H.char (c:=c2) (by lia) h4
      rw [e2,e] at k2
      have hch:ch=v:=by simpa using k2.symm
      have C:=nT H hcl (by lia) h4 (cw_v ho hIn ho2 (igs_yes k0 k1 (hch▸hv)))
      rw [← e4]
      refine C.1 ⟨x,hx,?_⟩
      have hs:=kF (p:=p) (n:=c2 - h.length) (ch:=v) (by lia) (by lia) (by rw [e2,e]; simp)
      rw [e2,e,show c2 - h.length - 1=c2 - 1 - h.length by lia,show x++[105,v]=(x++[105])++[v] by simp] at hs
      exact (List.append_cancel_right hs).symm
    · by_cases hc:h.length=c2
      · have hg:IGS [97,111,117] cur c2 false c2:=igs_no (by
          rw [← hc]
          rcases H.char0 with q | ⟨q,q'⟩
          · exact .inl q
          · exact .inr ⟨45,q,q',by decide⟩)
        exact corr_v0 (c3:=0) (c4:=0) (c5:=0) (q:=0) (q':=0) hcl (cw_no ho hIn ho2 hg)
      · obtain ⟨ch,k0,k1,k2,_⟩:=H.char (c:=c2) (by lia) h4
        by_cases hv:ch∈([97,111,117]:T)
        · have C:=nT H hcl (by lia) h4 (cw_v ho hIn ho2 (igs_yes k0 k1 hv))
          refine C.2 fun ⟨x,hx,e⟩=>hm (which_mem.mpr ⟨x,ch,hx,hv,?_⟩)
          have hs:=kF (p:=p) (n:=c2 - h.length) (ch:=ch) (by lia) (by lia) k2
          rw [e2,show c2 - h.length - 1=c2 - 1 - h.length by lia,e] at hs
          rw [hs]; simp
        · exact corr_v0 (c3:=0) (c4:=0) (c5:=0) (q:=0) (q':=0) hcl (cw_no ho hIn ho2 (igs_no (.inr ⟨ch,k0,k1,hv⟩)))
theorem numr_split {u:T} (h:u∈NUMR):∃ e7∈A7,∃ e6∈A6,u=e7.1++e6.1:=by
  have e:u∈A7.flatMap (fun e7=>A6.map fun e6=>e7.1++e6.1):=dC (a:=NUMR) (by decide +kernel) h
  obtain ⟨e7,h7,h1⟩:=List.mem_flatMap.mp e
  obtain ⟨e6,h6,h2⟩:=List.mem_map.mp h1
  exact ⟨e7,h7,e6,h6,h2.symm⟩
theorem numr_join {e7 e6:T×Int×Int} (h7:e7∈A7) (h6:e6∈A6):e7.1++e6.1∈NUMR :=
  dC (a:=A7.flatMap (fun e7=>A6.map fun e6=>e7.1++e6.1)) (by decide +kernel) (List.mem_flatMap.mpr ⟨e7,h7,List.mem_map.mpr ⟨e6,h6,rfl⟩⟩)
theorem a6_apart:∀ e∈A6,∀ e'∈A6,e'.1 <:+ e.1→e'.1=e.1:=by decide +kernel
theorem a67_ans:(∀ e∈A6,e.2.2 = -1∧45 ∉ e.1)∧∀ e∈A7,e.2.2 = -1∧45 ∉ e.1:=by decide +kernel
theorem mnum_law {cur h p:T} (H:HP cur h p) (hcl:cur.length≤60000):((∃ u∈NUMR,u <:+ p)→PR 280 cur true cur)∧((¬ ∃ u∈NUMR,u <:+ p)→PR 280 cur false cur):=by
  have hpc:p <:+ cur:=by rw [H.eq]; exact List.suffix_append _ _
  have hno:∀ {e7 e6:T×Int×Int},e7∈A7→e6∈A6→45 ∉ e7.1++e6.1:=fun h7 h6 q=>by
    rcases List.mem_append.mp q with q | q
    · exact (a67_ans.2 _ h7).2 q
    · exact (a67_ans.1 _ h6).2 q
  rcases fab g6 (Nat.le_refl cur.length) hcl with ⟨hF,hn⟩ | ⟨e,he,hs,hmax,hF⟩
  · rw [List.take_length] at hn
    refine ⟨fun ⟨u,hu,hup⟩=>?_,fun _=>mnum_none (c2:=0) (c3:=0) (c4:=0) (c5:=0) (q':=0) hcl hF rfl⟩
    obtain ⟨e7,h7,e6,h6,rfl⟩:=numr_split hu
    exact (hn e6 h6 ((List.suffix_append _ _).trans (hup.trans hpc))).elim
  · rw [List.take_length] at hs hmax
    rw [(a67_ans.1 e he).1] at hF
    have hcut:cur.take (cur.length - e.1.length)++e.1=cur:=by
      obtain ⟨z,hz⟩:=hs
      rw [← hz]
      simp
    rcases fab g7 (c:=cur.length - e.1.length) (Nat.sub_le _ _) hcl with ⟨hF7,hn⟩ | ⟨e7,h7,hs7,_,hF7⟩
    · refine ⟨fun ⟨u,hu,hup⟩=>?_,fun _=>mnum_no (c3:=0) (c4:=0) (c5:=0) hcl hF hF7 gW rfl⟩
      obtain ⟨e7,h7,e6,h6,rfl⟩:=numr_split hu
      have h1:=a6_apart e he e6 h6 (hmax e6 h6 ((List.suffix_append _ _).trans (hup.trans hpc)))
      obtain ⟨z,hz⟩:=hup.trans hpc
      rw [h1,← List.append_assoc] at hz
      have h2:=hz.trans hcut.symm
      have h3:=List.append_cancel_right h2
      exact (hn e7 h7 ⟨z,h3⟩).elim
    · rw [(a67_ans.2 e7 h7).1] at hF7
      refine ⟨fun _=>mnum_yes (c3:=0) (c4:=0) (c5:=0) hcl hF hF7 gW gW,fun hx=>(hx ?_).elim⟩
      refine ⟨e7.1++e.1,numr_join h7 he,H.suf (hno h7 he) ?_⟩
      obtain ⟨z,hz⟩:=hs7
      exact ⟨z,by rw [← List.append_assoc,hz,hcut]⟩
noncomputable def cnt (l:List Nat) (w:T):Nat:=(w.filter fun a=>decide (a∈l)).length
theorem take_succ {cur:T} {n:Nat} (h:n < cur.length):cur.take (n+1)=cur.take n++[cur.getD n 0]:=by
  rw [List.take_succ,lO h]; rfl
theorem lN {cur:T} {l:List Nat}:∀ n,n≤cur.length→match bP cur l n with
    | none=>cnt l (cur.take n)=0
    | some k=>cnt l (cur.take n)=cnt l (cur.take (k - 1))+1
  | 0,h=>by simp [bP,cnt]
  | n+1,h=>by
    have ih:=lN (cur:=cur) (l:=l) n (by lia)
    unfold bP
    have e:=take_succ (cur:=cur) (n:=n) (by lia)
    by_cases hc:cur.getD n 0∈l
    · rw [if_pos hc]
      show cnt l (cur.take (n+1))=cnt l (cur.take (n+1 - 1))+1
      rw [e,show n+1 - 1=n by lia]
      unfold cnt
      rw [List.filter_append,List.length_append,show [cur.getD n 0].filter (fun a=>decide (a∈l))=[cur.getD n 0] from by rw [List.filter_cons,if_pos (by simpa using hc)]; rfl]
      rfl
    · rw [if_neg hc,e]
      have e2:cnt l (cur.take n++[cur.getD n 0])=cnt l (cur.take n):=by
        unfold cnt
        rw [List.filter_append,List.length_append,show [cur.getD n 0].filter (fun a=>decide (a∈l))=[] from by rw [List.filter_cons,if_neg (by simpa using hc)]; rfl]
        rfl
      rw [e2]
      exact ih
theorem jW {cur:T} {l:List Nat} {n:Nat} (h:n≤cur.length):bP cur l n=none↔cnt l (cur.take n)=0:=by
  have:=lN (l:=l) n h
  cases hq:bP cur l n with
  | none=>rw [hq] at this; exact ⟨fun _=>this,fun _=>rfl⟩
  | some k=>rw [hq] at this; exact ⟨fun q=>(by cases q),fun q=>by (have:cnt l (cur.take n)=cnt l (cur.take (k - 1))+1:=this); lia⟩
theorem jV {cur:T} {l:List Nat} {n k:Nat} (h:n≤cur.length) (hk:bP cur l n=some k):cnt l (cur.take n)=cnt l (cur.take (k - 1))+1:=by
  have:=lN (l:=l) n h
  rw [hk] at this
  exact this
theorem lastIn_hy {cur h p:T} (H:HP cur h p):∀ m,m≤p.length→bP cur [45] (h.length+m)=if h.length=0 then none else some h.length
  | 0,_=>by
    rcases H.char0 with q | ⟨q,q'⟩
    · rw [if_pos q,q]; rfl
    · have hL:=H.len
      rw [if_neg (by lia)]
      obtain ⟨n,hn⟩:∃ n,h.length=n+1:=⟨h.length - 1,by lia⟩
      rw [hn,Nat.add_zero]
      unfold bP
      rw [hn,show n+1 - 1=n by lia,lO (by lia)] at q'
      rw [if_pos (List.mem_singleton.mpr (Option.some.inj q'))]
  | m+1,hm=>by
    have ih:=lastIn_hy H m (by lia)
    have hL:=H.len
    rw [← Nat.add_assoc]
    unfold bP
    rw [if_neg,ih]
    intro q
    obtain ⟨ch,k0,k1,k2,k3⟩:=H.char (c:=h.length+m+1) (by lia) (by lia)
    rw [show h.length+m+1 - 1=h.length+m by lia,lO (by lia)] at k1
    exact k3 ((Option.some.inj k1).symm.trans (List.mem_singleton.mp q))
noncomputable def VOWS:List Nat:=[97,101,105,111,117]
noncomputable def DIGS:List Nat:=[48,49,50,51,52,53,54,55,56,57]
theorem lw_law {cur h p:T} (H:HP cur h p) (hcl:cur.length≤60000):((2≤cnt VOWS cur∨2≤h.length∨0 < cnt DIGS cur)→PR 294 cur true cur)∧(¬ (2≤cnt VOWS cur∨2≤h.length∨0 < cnt DIGS cur)→PR 294 cur false cur):=by
  have hle:=Nat.le_refl cur.length
  have hy:=lastIn_hy H p.length (Nat.le_refl _)
  rw [← H.len] at hy
  -- the two vowels
  have A:(2≤cnt VOWS cur∧PR 294 cur true cur)∨(cnt VOWS cur < 2∧∃ k1,GOB VOWS cur cur.length false 0∨(0 < k1∧GOB VOWS cur cur.length true k1∧GOB VOWS cur (k1 - 1) false 0)):=by
    cases h1:bP cur VOWS cur.length with
    | none =>
      have c1:=(jW hle).mp h1
      rw [List.take_length] at c1
      exact .inr ⟨by lia,0,.inl (gob_no hle h1)⟩
    | some k1 =>
      obtain ⟨p1,p2⟩:=jB h1
      have c1:=jV hle h1
      rw [List.take_length] at c1
      cases h2:bP cur VOWS (k1 - 1) with
      | none =>
        have c2:=(jW (by lia)).mp h2
        exact .inr ⟨by lia,k1,.inr ⟨p1,gob_yes hle h1,gob_no (by lia) h2⟩⟩
      | some k2 =>
        obtain ⟨p3,p4⟩:=jB h2
        have c2:=jV (by lia) h2
        exact .inl ⟨by lia,lw_A hcl p1 p3 (gob_yes hle h1) (gob_yes (by lia) h2)⟩
  rcases A with ⟨a,hP⟩ | ⟨a,k1,hA⟩
  · exact ⟨fun _=>hP,fun q=>(q (.inl a)).elim⟩
  · by_cases hb:2≤h.length
    · rw [if_neg (by lia)] at hy
      exact ⟨fun _=>lw_B hcl hA hy (by lia),fun q=>(q (.inr (.inl hb))).elim⟩
    · have hB:bP cur [45] cur.length=none∨bP cur [45] cur.length=some 1:=by
        rw [hy]
        by_cases h0:h.length=0
        · exact .inl (if_pos h0)
        · exact .inr (by rw [if_neg h0,show h.length=1 by lia])
      cases h3:bP cur DIGS cur.length with
      | none =>
        have c3:=(jW hle).mp h3
        rw [List.take_length] at c3
        exact ⟨fun q=>by lia,fun _=>lw_no hcl hA hB (gob_no hle h3)⟩
      | some k3 =>
        have c3:=jV hle h3
        rw [List.take_length] at c3
        exact ⟨fun _=>lw_C hcl hA hB (jB h3).1 (gob_yes hle h3),fun q=>by lia⟩
noncomputable def cT (p:T):T:=ENDS.foldl (fun f e=>if e <:+ p∧f.length < e.length then e else f) []
theorem jC {p:T}:∀ (l:List T) (f:T),(f=[]∨f <:+ p)→(l.foldl (fun f e=>if e <:+ p∧f.length < e.length then e else f) f=[]∨l.foldl (fun f e=>if e <:+ p∧f.length < e.length then e else f) f <:+ p) ∧
    f.length≤(l.foldl (fun f e=>if e <:+ p∧f.length < e.length then e else f) f).length∧∀ e∈l,e <:+ p→e.length≤(l.foldl (fun f e=>if e <:+ p∧f.length < e.length then e else f) f).length
  | [],f,h=>⟨h,Nat.le_refl _,fun e he=>by cases he⟩
  | a::l,f,h=>by
    rw [List.foldl_cons]
    by_cases hc:a <:+ p∧f.length < a.length
    · rw [if_pos hc]
      obtain ⟨h1,h2,h3⟩:=jC l a (.inr hc.1)
      refine ⟨h1,by lia,fun e he hs=>?_⟩
      rcases List.mem_cons.mp he with rfl | he
      · exact h2
      · exact h3 e he hs
    · rw [if_neg hc]
      obtain ⟨h1,h2,h3⟩:=jC l f h
      refine ⟨h1,h2,fun e he hs=>?_⟩
      rcases List.mem_cons.mp he with rfl | he
      · have:¬ f.length < e.length:=fun q=>hc ⟨hs,q⟩
        lia
      · exact h3 e he hs
theorem ends_mem {x:T}:x∈cK A9↔x∈ENDS:=⟨dC (by decide +kernel),dC (by decide +kernel)⟩
theorem a9_ans:∀ e∈A9,e.1≠[]∧45 ∉ e.1∧((e.2.2=1∧e.1∈([[110],[106],[106,110]]:List T))∨(e.2.2 = -1∧e.1 ∉ ([[110],[106],[106,110]]:List T))):=by decide +kernel
noncomputable def cutEnd (cur p:T):T:=if cT p=[] then cur else
  if cT p∈([[110],[106],[106,110]]:List T)∧¬ ((cur.take (cur.length - (cT p).length)).getLast?=some 45)∧(∀ a,(cur.take (cur.length - (cT p).length)).getLast?=some a→a ∉ DIGS) then cur else
  if (cur.take (cur.length - (cT p).length)).getLast?=some 45 then (cur.take (cur.length - (cT p).length)).dropLast else cur.take (cur.length - (cT p).length)
theorem is_iff {ch:Nat} {cur:T} {c:Nat} (hc:c≤cur.length):Is ch cur c↔(cur.take c).getLast?=some ch:=by
  have hl:(cur.take c).length=c:=by rw [List.length_take]; lia
  by_cases h0:c=0
  · subst h0
    exact ⟨fun q=>absurd q.1 (by decide),fun q=>by cases q⟩
  · rw [List.getLast?_eq_getElem?,hl,List.getElem?_take_of_lt (by lia)]
    exact ⟨fun q=>q.2,fun q=>⟨by lia,q⟩⟩
theorem std_law {cur h p:T} (H:HP cur h p) (hcl:cur.length≤60000):∃ b,PR 301 cur b (cutEnd cur p):=by
  have hpc:p <:+ cur:=by rw [H.eq]; exact List.suffix_append _ _
  obtain ⟨f1,_,f3⟩:=jC (p:=p) ENDS [] (.inl rfl)
  change cT p=[]∨cT p <:+ p at f1
  change ∀ e∈ENDS,e <:+ p→e.length≤(cT p).length at f3
  rcases fab g9 (Nat.le_refl cur.length) hcl with ⟨hF,hn⟩ | ⟨e,he,hs,hmax,hF⟩
  · rw [List.take_length] at hn
    have h0:cT p=[]:=by
      rcases f1 with f1 | f1
      · exact f1
      · have hm:∀ (l:List T) (f:T),(f=[]∨f∈ENDS)→(∀ e∈l,e∈ENDS)→l.foldl (fun f e=>if e <:+ p∧f.length < e.length then e else f) f=[]∨l.foldl (fun f e=>if e <:+ p∧f.length < e.length then e else f) f∈ENDS:=by
          intro l
          induction l with
          | nil=>intro f hf _; exact hf
          | cons a l ih =>
            intro f hf hl
            rw [List.foldl_cons]
            refine ih _ ?_ fun e he=>hl e (List.mem_cons_of_mem _ he)
            split
            · exact .inr (hl a List.mem_cons_self)
            · exact hf
        rcases hm ENDS [] (.inl rfl) fun _ q=>q with q | q
        · exact q
        · obtain ⟨e,he,e1⟩:=mem_words.mp (ends_mem.mpr q)
          exact (hn e he (by rw [e1]; exact f1.trans hpc)).elim
    refine ⟨false,?_⟩
    unfold cutEnd
    rw [if_pos h0]
    exact std_none (c2:=0) (c3:=0) (c4:=0) (c5:=0) (q':=0) hcl hF rfl
  · rw [List.take_length] at hs hmax
    obtain ⟨a1,a2,a3⟩:=a9_ans e he
    have hsp:=H.suf a2 hs
    have hle:=f3 e.1 (ends_mem.mp (mem_words.mpr ⟨e,he,rfl⟩)) hsp
    have hlen:0 < e.1.length:=List.length_pos_iff.mpr a1
    have hfs:cT p <:+ p:=f1.resolve_left fun q=>by rw [q] at hle; simp at hle; exact a1 hle
    have hfe:cT p=e.1:=by
      have hfm:cT p∈ENDS:=by
        have hm:∀ (l:List T) (f:T),(f=[]∨f∈ENDS)→(∀ e∈l,e∈ENDS)→l.foldl (fun f e=>if e <:+ p∧f.length < e.length then e else f) f=[]∨l.foldl (fun f e=>if e <:+ p∧f.length < e.length then e else f) f∈ENDS:=by
          intro l
          induction l with
          | nil=>intro f hf _; exact hf
          | cons a l ih =>
            intro f hf hl
            rw [List.foldl_cons]
            refine ih _ ?_ fun e he=>hl e (List.mem_cons_of_mem _ he)
            split
            · exact .inr (hl a List.mem_cons_self)
            · exact hf
        rcases hm ENDS [] (.inl rfl) fun _ q=>q with q | q
        · exfalso
          have:cT p=[]:=q
          rw [this] at hle
          simp at hle
          exact a1 hle
        · exact q
      obtain ⟨e',he',e1⟩:=mem_words.mp (ends_mem.mpr hfm)
      have h1:=hmax e' he' (by rw [e1]; exact hfs.trans hpc)
      rw [e1] at h1
      exact h1.eq_of_length_le hle
    unfold cutEnd
    rw [if_neg (by rw [hfe]; exact a1),hfe]
    have hc1:cur.length - e.1.length≤cur.length:=Nat.sub_le _ _
    have hq0:e.2.2≠0:=by rcases a3 with ⟨q,_⟩ | ⟨q,_⟩ <;> rw [q] <;> decide
    -- the hyphen in front
    have fin:(e.2.2≠1∨(e.2.2=1∧Is 45 cur (cur.length - e.1.length))∨(e.2.2=1∧Isnt 45 cur (cur.length - e.1.length)∧IGG DIGS cur (cur.length - e.1.length) true (cur.length - e.1.length - 1))) →
        PR 301 cur true (if (cur.take (cur.length - e.1.length)).getLast?=some 45 then (cur.take (cur.length - e.1.length)).dropLast else cur.take (cur.length - e.1.length)):=fun hx=>by
      by_cases hI:Is 45 cur (cur.length - e.1.length)
      · rw [if_pos ((is_iff hc1).mp hI)]
        have:=std_yes (c2:=cur.length - e.1.length - 1) (c3:=cur.length - e.1.length - 1) (c4:=0) (c5:=0) (q':=0) hcl hF hq0 hx hc1 (.inl ⟨hI.1,hI.2,rfl⟩)
        rw [show (cur.take (cur.length - e.1.length)).dropLast=cur.take (cur.length - e.1.length - 1) from by
          rw [List.dropLast_eq_take,List.length_take,List.take_take]; congr 1; lia]
        exact this
      · rw [if_neg fun q=>hI ((is_iff hc1).mpr q)]
        exact std_yes (c2:=cur.length - e.1.length - 1) (c3:=cur.length - e.1.length) (c4:=0) (c5:=0) (q':=0) hcl hF hq0 hx hc1 (.inr ⟨jY hc1 hI,rfl⟩)
    rcases a3 with ⟨q1,q2⟩ | ⟨q1,q2⟩
    · by_cases hI:Is 45 cur (cur.length - e.1.length)
      · rw [if_neg fun q=>q.2.1 ((is_iff hc1).mp hI)]
        exact ⟨true,fin (.inr (.inl ⟨q1,hI⟩))⟩
      · by_cases hD:∃ a,(cur.take (cur.length - e.1.length)).getLast?=some a∧a∈DIGS
        · obtain ⟨a,h1,h2⟩:=hD
          rw [if_neg fun q=>q.2.2 a h1 h2]
          have h3:=(is_iff hc1).mpr h1
          exact ⟨true,fin (.inr (.inr ⟨q1,jY hc1 hI,igg_yes h3.1 h3.2 h2⟩))⟩
        · rw [if_pos ⟨q2,fun q=>hI ((is_iff hc1).mpr q),fun a h1 h2=>hD ⟨a,h1,h2⟩⟩]
          refine ⟨false,std_no (c2:=0) (c3:=0) (c4:=0) (c5:=0) (q':=0) hcl hF q1 (jY hc1 hI) (igg_no ?_)⟩
          by_cases h0:cur.length - e.1.length=0
          · exact .inl h0
          · have hl:cur.length - e.1.length - 1 < cur.length:=by lia
            refine .inr ⟨cur[cur.length - e.1.length - 1],by lia,List.getElem?_eq_getElem hl,fun q=>hD ⟨_,(is_iff hc1).mp ⟨by lia,List.getElem?_eq_getElem hl⟩,q⟩⟩
    · rw [if_neg fun q=>q2 q.1]
      exact ⟨true,fin (.inl (by rw [q1]; decide))⟩
theorem verb_mem {s:T}:s∈VERB↔∃ e∈A1,s=[39,115,116]++e.1:=by
  have e:s∈VERB↔s∈A1.map (fun e=>[39,115,116]++e.1):=⟨dC (by decide +kernel),dC (by decide +kernel)⟩
  rw [e,List.mem_map]
  exact ⟨fun ⟨x,a,b⟩=>⟨x,a,b.symm⟩,fun ⟨x,a,b⟩=>⟨x,a,b.symm⟩⟩
theorem a1_ans:∀ e∈A1,e.2.2 = -1:=by decide +kernel
theorem ini_law {cur:T} (hcl:cur.length≤60000):∃ b,PF 245 cur b (if cur∈VERB then 101::cur.drop 1 else cur):=by
  have hv0:cur∈VERB→∃ r,cur=39::115::116::r∧∃ e∈A1,e.1=r:=fun h=>by
    obtain ⟨e,he,h1⟩:=verb_mem.mp h
    exact ⟨e.1,h1,e,he,rfl⟩
  match hc:cur with
  | []=>exact ⟨false,by rw [if_neg (fun q=>by obtain ⟨r,h,_⟩:=hv0 q; cases h)]; exact ini_0 hcl rfl⟩
  | ch::r =>
    by_cases h1:ch=39
    · subst h1
      by_cases h2:[115,116] <+: r
      · obtain ⟨r2,rfl⟩:=h2
        have he:EQF [115,116] (39::([115,116]++r2)) 1 true 3:=eqf_yes (by simp) ⟨r2,rfl⟩
        rcases faf g1 (cur:=39::([115,116]++r2)) (c:=3) (by simp) hcl with ⟨hF,hn⟩ | ⟨e,hem,hs,hmax,hF⟩
        · refine ⟨false,?_⟩
          rw [if_neg]
          · exact ini_3 hcl rfl he hF rfl
          · intro q
            obtain ⟨r',h,e,he',e1⟩:=hv0 q
            simp at h
            exact hn e he' (by show e.1 <+: r2; rw [e1,h]; exact List.prefix_rfl)
        · rw [a1_ans e hem] at hF
          have hs':e.1 <+: r2:=hs
          have hll:=hs'.length_le
          have hL:(39::([115,116]++r2)).length=3+r2.length:=by simp; lia
          by_cases h3:3+e.1.length < (39::([115,116]++r2)).length
          · refine ⟨false,?_⟩
            rw [if_neg]
            · exact ini_4 hcl rfl he hF gW h3
            · intro q
              obtain ⟨r',h,e',he',e1⟩:=hv0 q
              simp at h
              have:=(hmax e' he' (by show e'.1 <+: r2; rw [e1,h]; exact List.prefix_rfl)).length_le
              rw [e1,← h] at this
              lia
          · have h4:e.1=r2:=hs'.eq_of_length (by lia)
            refine ⟨true,?_⟩
            rw [if_pos (verb_mem.mpr ⟨e,hem,by rw [h4]; rfl⟩)]
            exact ini_5 hcl rfl he hF gW (by lia) rfl
      · refine ⟨false,?_⟩
        rw [if_neg]
        · exact ini_2 hcl rfl (eqf_no (by simp) h2)
        · intro q
          obtain ⟨r',h,_⟩:=hv0 q
          cases h
          exact h2 ⟨r',rfl⟩
    · refine ⟨false,?_⟩
      rw [if_neg]
      · exact ini_1 hcl rfl h1
      · intro q
        obtain ⟨r',h,_⟩:=hv0 q
        cases h
        exact h1 rfl
noncomputable def HATS:List (Nat×Nat):=[(99,265),(103,285),(104,293),(106,309),(115,349),(117,365)]
noncomputable def ACCS:List (Nat×Nat):=[(225,97),(233,101),(237,105),(243,111),(250,117)]
noncomputable def FORS:List Nat:=[113,119,120,121,225,233,237,243,250]
noncomputable def jD (a:Nat):Option Nat:=HATS.lookup a
noncomputable def cE (a:Nat):Nat:=(ACCS.lookup a).getD a
noncomputable def sg:T→T
  | []=>[]
  | [a]=>[a]
  | a::x::r=>if x=120 then match jD a with
    | some h=>h::sg r
    | none=>a::sg (x::r) else a::sg (x::r)
theorem kG {a:Nat} {r:T} (h:jD a=none∨r.head?≠some 120):sg (a::r)=a::sg r:=by
  cases r with
  | nil=>rfl
  | cons x r =>
    conv=>lhs; unfold sg
    by_cases hx:x=120
    · rw [if_pos hx]
      rcases h with h | h
      · rw [h]
      · exact (h (by rw [hx]; rfl)).elim
    · rw [if_neg hx]
theorem sg_hat {a h:Nat} {r:T} (hh:jD a=some h):sg (a::120::r)=h::sg r:=by
  conv=>lhs; unfold sg
  rw [if_pos rfl,hh]
noncomputable def fl (b:Bool) (a:Nat):Bool:=if a=45 then false else if a∈FORS then true else b
theorem look_none {l:List (Nat×Nat)} {a:Nat} (h:∀ p∈l,p.1≠a):l.lookup a=none:=by
  induction l with
  | nil=>rfl
  | cons p l ih =>
    obtain ⟨x,y⟩:=p
    rw [List.lookup_cons]
    have:(a == x)=false:=by simpa using fun q:a=x=>h (x,y) List.mem_cons_self q.symm
    rw [this]
    exact ih fun p hp=>h p (List.mem_cons_of_mem _ hp)
theorem nD {a h:Nat}:∀ {l:List (Nat×Nat)},l.lookup a=some h→(a,h)∈l
  | [],q=>by cases q
  | (x,y)::l,q=>by
    rw [List.lookup_cons] at q
    by_cases e:a=x
    · subst e
      simp at q
      subst q
      exact List.mem_cons_self
    · rw [show (a == x)=false by simpa using e] at q
      exact List.mem_cons_of_mem _ (nD q)
theorem can_w:∀ (N:Nat) (rest dn:T) (b:Bool),rest.length≤N→(dn++rest).length≤60000 →
    CWH (dn++rest) dn.length b (dn++(sg rest).map cE) ((sg rest).foldl fl b):=by
  intro N
  induction N with
  | zero =>
    intro rest dn b hN hcl
    have:rest=[]:=List.length_eq_zero_iff.mp (by lia)
    subst this
    rcases faf g0 (cur:=dn++[]) (c:=dn.length) (by simp) hcl with ⟨hF,hn⟩ | ⟨e,hem,hs,hmax,hF⟩
    · exact (hn ([],-1,14) (by decide) List.nil_prefix).elim
    · have hs':e.1 <+: ((dn++[]).drop dn.length):=hs
      rw [List.drop_left'  rfl] at hs'
      have h0:e.1=[]:=List.prefix_nil.mp hs'
      have h14:∀ e∈A0,e.1=[]→e.2.2=14:=by decide +kernel
      rw [h14 e hem h0,h0] at hF
      rw [show sg []=[] from rfl,List.map_nil,List.foldl_nil]
      simp only [List.append_nil] at hF ⊢
      exact can_end hF
  | succ N ih =>
    intro rest dn b hN hcl
    cases rest with
    | nil =>
      rcases faf g0 (cur:=dn++[]) (c:=dn.length) (by simp) hcl with ⟨hF,hn⟩ | ⟨e,hem,hs,hmax,hF⟩
      · exact (hn ([],-1,14) (by decide) List.nil_prefix).elim
      · have hs':e.1 <+: ((dn++[]).drop dn.length):=hs
        rw [List.drop_left'  rfl] at hs'
        have h0:e.1=[]:=List.prefix_nil.mp hs'
        have h14:∀ e∈A0,e.1=[]→e.2.2=14:=by decide +kernel
        rw [h14 e hem h0,h0] at hF
        rw [show sg []=[] from rfl,List.map_nil,List.foldl_nil]
        simp only [List.append_nil] at hF ⊢
        exact can_end hF
    | cons a r =>
      have hrN:r.length≤N:=by simp at hN; lia
      -- one sign is left as it is,or put
      have one:∀ (y:Nat) (b1:Bool),sg (a::r)=a::sg r→cE a=y→fl b a=b1→CIT (dn++(a::r)) dn.length b ((dn++[y])++r) (dn++[y]).length b1→CWH (dn++(a::r)) dn.length b (dn++(sg (a::r)).map cE) ((sg (a::r)).foldl fl b):=fun y b1 e1 e2 e3 hC=>by
        rw [e1,List.map_cons,List.foldl_cons,e2,e3,show dn++(y::(sg r).map cE)=(dn++[y])++(sg r).map cE by simp]
        exact CWH.step hC (ih r (dn++[y]) b1 hrN (by simp at hcl ⊢; lia))
      -- two signs become one
      have two:∀ (h:Nat) (r2:T),r=120::r2→jD a=some h→cE h=h→fl b h=b→CIT (dn++(a::r)) dn.length b ((dn++[h])++r2) (dn++[h]).length b→CWH (dn++(a::r)) dn.length b (dn++(sg (a::r)).map cE) ((sg (a::r)).foldl fl b):=fun h r2 e0 e1 e2 e3 hC=>by
        subst e0
        rw [sg_hat e1,List.map_cons,List.foldl_cons,e2,e3,show dn++(h::(sg r2).map cE)=(dn++[h])++(sg r2).map cE by simp]
        exact CWH.step hC (ih r2 (dn++[h]) b (by simp at hrN; lia) (by simp at hcl ⊢; lia))
      rcases faf g0 (cur:=dn++(a::r)) (c:=dn.length) (by simp) hcl with ⟨hF,hn⟩ | ⟨e,hem,hs,hmax,hF⟩
      · exact (hn ([],-1,14) (by decide) List.nil_prefix).elim
      · rw [List.drop_left' rfl] at hs hmax
        simp only [A0,List.mem_cons,List.not_mem_nil,or_false] at hem
        rcases hem with rfl | rfl | rfl | rfl | rfl | rfl | rfl | rfl | rfl | rfl | rfl | rfl | rfl | rfl | rfl | rfl | rfl
        · have hno:∀ e∈A0,e.1 <+: a::r→e.1=[]:=fun e he h=>List.prefix_nil.mp (hmax e he h)
          have hsing:∀ x:Nat,[x]∈cK A0→x≠a:=fun x hm q=>by
            obtain ⟨e',he',e1⟩:=mem_words.mp hm
            have:=hno _ he' (by rw [e1,q]; exact ⟨r,rfl⟩)
            rw [e1] at this
            cases this
          have hac:cE a=a:=by
            unfold cE
            rw [look_none fun p hp=>hsing p.1 ((by decide +kernel:∀ p∈ACCS,[p.1]∈cK A0) p hp)]
            rfl
          have hfo:a ∉ FORS:=fun hm=>hsing a ((by decide +kernel:∀ p∈FORS,[p]∈cK A0) a hm) rfl
          have h45:a≠45:=fun q=>hsing 45 (by decide +kernel) q.symm
          have hsg:sg (a::r)=a::sg r:=kG (by
            cases hh:jD a with
            | none=>exact .inl rfl
            | some h =>
              refine .inr fun q=>?_
              cases r with
              | nil=>cases q
              | cons x r2 =>
                have hx:x=120:=by simpa using q
                subst hx
                obtain ⟨e',he',e1⟩:=mem_words.mp ((by decide +kernel:∀ p∈HATS,[p.1,120]∈cK A0) (a,h) (nD hh))
                have:=hno _ he' (by rw [e1]; exact ⟨r2,rfl⟩)
                rw [e1] at this
                cases this)
          exact one a b hsg hac (by unfold fl; rw [if_neg h45,if_neg hfo]) (can_14 hcl hF)
        all_goals
          obtain ⟨z,hz⟩:=hs
          cases hz
        · exact one 45 false (kG (.inl rfl)) rfl rfl (can_13 hcl hF)
        · exact two 265 z rfl rfl rfl rfl (can_1 hcl hF)
        · exact two 285 z rfl rfl rfl rfl (can_2 hcl hF)
        · exact two 293 z rfl rfl rfl rfl (can_3 hcl hF)
        · exact two 309 z rfl rfl rfl rfl (can_4 hcl hF)
        · exact one 113 true (kG (.inl rfl)) rfl rfl (can_12_q hcl hF)
        · exact two 349 z rfl rfl rfl rfl (can_5 hcl hF)
        · exact two 365 z rfl rfl rfl rfl (can_6 hcl hF)
        · exact one 119 true (kG (.inl rfl)) rfl rfl (can_12_w hcl hF)
        · exact one 120 true (kG (.inl rfl)) rfl rfl (can_12_x hcl hF)
        · exact one 121 true (kG (.inl rfl)) rfl rfl (can_12_y hcl hF)
        · exact one 97 true (kG (.inl rfl)) rfl rfl (can_7 hcl hF)
        · exact one 101 true (kG (.inl rfl)) rfl rfl (can_8 hcl hF)
        · exact one 105 true (kG (.inl rfl)) rfl rfl (can_9 hcl hF)
        · exact one 111 true (kG (.inl rfl)) rfl rfl (can_10 hcl hF)
        · exact one 117 true (kG (.inl rfl)) rfl rfl (can_11 hcl hF)
theorem can_law {w:T} (hcl:w.length≤60000):PF 238 w (!((sg w).foldl fl false)) ((sg w).map cE) :=
  can_ok (can_w w.length w [] false (Nat.le_refl _) hcl)
noncomputable def fF (acc:T) (a:Nat):T:=match acc.getLast? with
  | none=>acc++[a]
  | some b=>if a=120 then match jD b with
    | some h=>acc.dropLast++[h]
    | none=>acc++[a] else acc++[a]
theorem iZ {acc:T} {a:Nat} (h:a≠120∨∀ b,acc.getLast?=some b→jD b=none):fF acc a=acc++[a]:=by
  unfold fF
  cases hl:acc.getLast? with
  | none=>rfl
  | some b =>
    show (if a=120 then _ else _)=_
    by_cases ha:a=120
    · rw [if_pos ha,(h.resolve_left (fun q=>q ha)) b hl]
    · rw [if_neg ha]
theorem hat_not_hat {b h:Nat} (e:jD b=some h):jD h=none:=by
  have:=(by decide +kernel:∀ p∈HATS,jD p.2=none) (b,h) (nD e)
  exact this
theorem signs_go:∀ (N:Nat) (r acc:T),r.length≤N→(r.head?≠some 120∨∀ b,acc.getLast?=some b→jD b=none)→r.foldl fF acc=acc++sg r:=by
  intro N
  induction N with
  | zero =>
    intro r acc hN _
    rw [List.length_eq_zero_iff.mp (Nat.le_zero.mp hN)]
    simp [sg]
  | succ N ih =>
    intro r acc hN h
    cases r with
    | nil=>simp [sg]
    | cons a r =>
      have hN':r.length≤N:=by simp at hN; lia
      have h1:fF acc a=acc++[a]:=iZ (by
        rcases h with h | h
        · exact .inl fun q=>h (by rw [q]; rfl)
        · exact .inr h)
      rw [List.foldl_cons,h1]
      cases hh:jD a with
      | none =>
        rw [ih r (acc++[a]) hN' (.inr fun b hb=>by simp at hb; rw [← hb,hh]),kG (.inl hh)]
        simp
      | some c =>
        cases r with
        | nil=>simp [sg]
        | cons x r2 =>
          by_cases hx:x=120
          · subst hx
            rw [List.foldl_cons,show fF (acc++[a]) 120=acc++[c] from by unfold fF; simp [hh],sg_hat hh,
              ih r2 (acc++[c]) (by simp at hN'; lia) (.inr fun b hb=>by simp at hb; rw [← hb]; exact hat_not_hat hh)]
            simp
          · rw [ih (x::r2) (acc++[a]) hN' (.inl (by simpa using hx)),kG (a:=a) (.inr (by simpa using hx)),List.append_assoc]
            rfl
noncomputable def aZ (w:T):T:=w.foldl fF []
theorem signs_eq (w:T):aZ w=sg w:=by
  have:=signs_go w.length w [] (Nat.le_refl _) (.inr fun b hb=>by cases hb)
  rw [List.nil_append] at this
  exact this
theorem sg_length:∀ (N:Nat) (r:T),r.length≤N→(sg r).length≤r.length:=by
  intro N
  induction N with
  | zero=>intro r h; rw [List.length_eq_zero_iff.mp (Nat.le_zero.mp h)]; exact Nat.le_refl _
  | succ N ih =>
    intro r h
    cases r with
    | nil=>exact Nat.le_refl _
    | cons a r =>
      have hN':r.length≤N:=by simp at h; lia
      by_cases hc:∃ c,jD a=some c∧r.head?=some 120
      · obtain ⟨c,h1,h2⟩:=hc
        cases r with
        | nil=>cases h2
        | cons x r2 =>
          have hx:x=120:=by simpa using h2
          subst hx
          have:=ih r2 (by simp at hN'; lia)
          rw [sg_hat h1]
          simp; lia
      · rw [kG]
        · have:=ih r hN'
          simp; lia
        · cases hh:jD a with
          | none=>exact .inl rfl
          | some c=>exact .inr fun q=>hc ⟨c,hh,q⟩
theorem lU (w:T):(aZ w).length≤w.length:=by rw [signs_eq]; exact sg_length _ w (Nat.le_refl _)
noncomputable def plF:T→Nat→Nat→Nat
  | [],_,pl=>pl
  | a::r,i,pl=>plF r (i+1) (if a=45 then i+1 else pl)
noncomputable def cB (s:T):Nat:=plF s 0 0
theorem hp_snoc {pre h p:T} (H:HP pre h p) (a:Nat):if a=45 then HP (pre++[a]) (pre++[a]) [] else HP (pre++[a]) h (p++[a]):=by
  by_cases e:a=45
  · rw [if_pos e]
    subst e
    exact ⟨by simp,by simp,.inr ⟨pre,rfl⟩⟩
  · rw [if_neg e]
    refine ⟨by rw [H.eq,List.append_assoc],fun q=>?_,H.hy⟩
    rcases List.mem_append.mp q with q | q
    · exact H.no q
    · exact e (List.mem_singleton.mp q).symm
theorem plF_ok:∀ (r pre:T) (pl:Nat),pl≤pre.length→HP pre (pre.take pl) (pre.drop pl) →
    plF r pre.length pl≤(pre++r).length∧HP (pre++r) ((pre++r).take (plF r pre.length pl)) ((pre++r).drop (plF r pre.length pl))
  | [],pre,pl,h,H=>by
    rw [List.append_nil]
    exact ⟨h,H⟩
  | a::r,pre,pl,h,H=>by
    unfold plF
    have hs:=hp_snoc H a
    have e:pre++a::r=(pre++[a])++r:=by simp
    have el:(pre++[a]).length=pre.length+1:=by simp
    rw [e,← el]
    by_cases ha:a=45
    · rw [if_pos ha] at hs ⊢
      refine plF_ok r (pre++[a]) _ (Nat.le_refl _) ?_
      rw [List.take_length,List.drop_length]
      exact hs
    · rw [if_neg ha] at hs ⊢
      refine plF_ok r (pre++[a]) _ (by lia) ?_
      rw [List.take_append_of_le_length h,List.drop_append_of_le_length h]
      exact hs
theorem place_ok (s:T):cB s≤s.length∧HP s (s.take (cB s)) (s.drop (cB s)):=by
  have:=plF_ok s [] 0 (Nat.le_refl _) ⟨rfl,by simp,.inl rfl⟩
  rw [List.nil_append] at this
  exact this
theorem fl_plain:∀ (p:T) (b:Bool),45 ∉ p→p.foldl fl b=(b || p.any fun a=>decide (a∈FORS))
  | [],b,_=>by simp
  | a::p,b,h=>by
    rw [List.foldl_cons,fl_plain p _ fun q=>h (List.mem_cons_of_mem _ q)]
    have ha:a≠45:=fun q=>h (q▸List.mem_cons_self)
    unfold fl
    rw [if_neg ha,List.any_cons]
    by_cases hf:a∈FORS
    · simp [hf]
    · simp [hf]
theorem fl_law {s h p:T} (H:HP s h p):s.foldl fl false=p.any fun a=>decide (a∈FORS):=by
  rw [H.eq,List.foldl_append,fl_plain p _ H.no]
  have:h.foldl fl false=false:=by
    rcases H.hy with e | ⟨h',e⟩
    · rw [e]; rfl
    · rw [e,List.foldl_append]; rfl
  rw [this,Bool.false_or]
noncomputable def JN:List T:=[[],[110],[106],[106,110]]
noncomputable def lawC (pl:Nat) (w p:T):T:=if cnt VOWS w < 2∧pl < 2∧cnt DIGS w=0 then w else cutEnd w p
noncomputable def lawB (pl:Nat) (h p:T):T:=match eD p [[],[110]] kE with
  | some b=>h++b
  | none=>match eD p JN lD with
    | some b=>h++b
    | none=>if p∈STAY then h++p else if ∃ u∈NUMR,u <:+ p then h++p else match eD p JN ONES with
      | some b=>h++b
      | none=>lawC pl (h++p) p
noncomputable def lawA (pl:Nat) (h p w:T):T:=match eD p [[],[110]] PRON with
  | some b=>h++b
  | none=>lawB pl h (if p.getLast?=some 39 then apo w p else p)
noncomputable def lawV (w:T):T:=if w∈VERB then 101::w.drop 1 else w
noncomputable def eU (w:T):T:=if ((aZ w).drop (cB (aZ w))).any (fun a=>decide (a∈FORS)) then (aZ w).map cE else
  lawA (cB (aZ w)) ((lawV ((aZ w).map cE)).take (cB (aZ w))) ((lawV ((aZ w).map cE)).drop (cB (aZ w))) (lawV ((aZ w).map cE))
theorem acc_hy (a:Nat):cE a=45↔a=45:=by
  by_cases h:∃ p∈ACCS,p.1=a
  · obtain ⟨p,hp,rfl⟩:=h
    exact (by decide +kernel:∀ p∈ACCS,cE p.1=45↔p.1=45) p hp
  · have:cE a=a:=by
      unfold cE
      rw [look_none fun p hp q=>h ⟨p,hp,q⟩]
      rfl
    rw [this]
theorem HP.acc {s h p:T} (H:HP s h p):HP (s.map cE) (h.map cE) (p.map cE):=by
  refine ⟨by rw [H.eq,List.map_append],fun q=>?_,?_⟩
  · obtain ⟨a,h1,h2⟩:=List.mem_map.mp q
    exact H.no ((acc_hy a).mp h2▸h1)
  · rcases H.hy with e | ⟨h',e⟩
    · exact .inl (by rw [e]; rfl)
    · exact .inr ⟨h'.map cE,by rw [e,List.map_append]; rfl⟩
theorem lF {w:T} (h:w∈VERB):45 ∉ w∧0 < w.length:=by
  exact (by decide +kernel:∀ w∈VERB,45 ∉ w∧0 < w.length) w h
theorem lawV_HP {w:T} {n:Nat} (hn:n≤w.length) (H:HP w (w.take n) (w.drop n)):(lawV w).length=w.length∧HP (lawV w) ((lawV w).take n) ((lawV w).drop n):=by
  unfold lawV
  by_cases h:w∈VERB
  · rw [if_pos h]
    obtain ⟨h1,h2⟩:=lF h
    obtain ⟨e1,e2⟩:=H.noHead h1
    have h0:n=0:=by
      have:=congrArg List.length e1
      rw [List.length_take] at this
      simp at this
      rcases this with q | q
      · exact q
      · rw [q] at h2; cases h2
    subst h0
    refine ⟨by simp; lia,rfl,?_,.inl rfl⟩
    rw [List.drop_zero]
    intro q
    rcases List.mem_cons.mp q with q | q
    · cases q
    · exact h1 (List.mem_of_mem_drop q)
  · rw [if_neg h]
    exact ⟨rfl,H⟩
theorem stem_law {w:T} (hw:w.length≤50000):PS w (eU w):=by
  have hsl:=lU w
  obtain ⟨hpl,HS⟩:=place_ok (aZ w)
  have hcan:=can_law (w:=w) (by lia)
  rw [← signs_eq,fl_law HS] at hcan
  unfold eU
  by_cases hf:((aZ w).drop (cB (aZ w))).any (fun a=>decide (a∈FORS))=true
  · rw [if_pos hf]
    rw [hf] at hcan
    exact st_0 hcan
  · rw [if_neg hf]
    rw [Bool.not_eq_true] at hf
    rw [hf] at hcan
    have H1:=HS.acc
    rw [List.map_take,List.map_drop] at H1
    have hl1:((aZ w).map cE).length=(aZ w).length:=List.length_map _
    obtain ⟨hlV,H2⟩:=lawV_HP (by rw [hl1]; exact hpl) H1
    obtain ⟨b1,hini⟩:=ini_law (cur:=(aZ w).map cE) (by lia)
    change PF 245 _ b1 (lawV ((aZ w).map cE)) at hini
    generalize hx1:(aZ w).map cE=x1 at *
    generalize hx2:lawV x1=x2 at *
    generalize hn:cB (aZ w)=n at *
    have hh:(x2.take n).length=n:=by rw [List.length_take]; lia
    generalize hhh:x2.take n=h at *
    generalize hpp:x2.drop n=p at *
    have hc2:x2.length≤60000:=by lia
    -- pronouns
    unfold lawA
    obtain ⟨P1,P2⟩:=pron_law H2 hc2
    rw [bareN eN_pron]
    by_cases hp1:bT 110 p∈PRON
    · rw [if_pos hp1]
      exact st_2 hcan hini (P1 hp1)
    · rw [if_neg hp1]
      have hpr:=P2 hp1
      -- apostrophes
      have hap:∃ b3 p3,p3=(if p.getLast?=some 39 then apo x2 p else p)∧PR 259 x2 b3 (h++p3)∧HP (h++p3) h p3∧p3.length≤p.length+5:=by
        obtain ⟨F1,F2⟩:=fap_law H2 hc2
        by_cases hq:p.getLast?=some 39
        · refine ⟨true,apo x2 p,(if_pos hq).symm,F2 hq,H2.put (apo_plain H2),?_⟩
          have hd:p.dropLast.length≤p.length:=by simp
          unfold apo
          split
          · simp
          · split
            · simp
            · split <;> rw [List.length_append] <;> simp <;> lia
        · refine ⟨false,p,(if_neg hq).symm,?_,?_,by lia⟩
          · rw [← H2.eq]; exact F1 hq
          · rw [← H2.eq]; exact H2
      obtain ⟨b3,p3,e3,hfa,H3,hl3⟩:=hap
      rw [← e3]
      show PS w (lawB n h p3)
      have hL2:=H2.len
      have hc3:(h++p3).length≤60000:=by rw [List.length_append]; lia
      -- correlatives
      obtain ⟨C1,C2,C3⟩:=corr_law H3 hc3
      unfold lawB
      rw [bareN eN_where]
      by_cases hw1:bT 110 p3∈kE
      · rw [if_pos hw1]
        exact st_4 hcan hini hpr hfa (C1 hw1)
      · rw [if_neg hw1]
        unfold JN
        rw [bareJN eJN_which]
        by_cases hw2:bT 106 (bT 110 p3)∈lD
        · rw [if_pos hw2]
          exact st_4 hcan hini hpr hfa (C2 hw1 hw2)
        · rw [if_neg hw2]
          have hco:=C3 hw1 hw2
          show PS w (if p3∈STAY then h++p3 else _)
          obtain ⟨U1,U2⟩:=unin_law H3 hc3
          by_cases hs:p3∈STAY
          · rw [if_pos hs]
            exact st_5 hcan hini hpr hfa hco (U1 hs)
          · rw [if_neg hs]
            obtain ⟨M1,M2⟩:=mnum_law H3 hc3
            by_cases hm:∃ u∈NUMR,u <:+ p3
            · rw [if_pos hm]
              exact st_6 hcan hini hpr hfa hco (U2 hs) (M1 hm)
            · rw [if_neg hm,bareJN eJN_ones]
              obtain ⟨J1,J2⟩:=ujn_law H3 hc3
              by_cases ho:bT 106 (bT 110 p3)∈ONES
              · rw [if_pos ho]
                exact st_7 hcan hini hpr hfa hco (U2 hs) (M2 hm) (J1 ho)
              · rw [if_neg ho]
                show PS w (lawC n (h++p3) p3)
                obtain ⟨W1,W2⟩:=lw_law H3 hc3
                unfold lawC
                by_cases hv:cnt VOWS (h++p3) < 2∧n < 2∧cnt DIGS (h++p3)=0
                · rw [if_pos hv]
                  exact st_8 hcan hini hpr hfa hco (U2 hs) (M2 hm) (J2 ho) (W2 (by lia))
                · rw [if_neg hv]
                  have hlw:=W1 (by lia)
                  obtain ⟨b,hst⟩:=std_law H3 hc3
                  cases b with
                  | false=>exact st_9 hcan hini hpr hfa hco (U2 hs) (M2 hm) (J2 ho) hlw hst
                  | true=>exact st_10 hcan hini hpr hfa hco (U2 hs) (M2 hm) (J2 ho) hlw hst
theorem stemWord_law {w:T} (hw:w.length≤50000):SW w (eU w):=stemWord_ok (stem_law hw)
theorem bind0 {fd:FuncData} (h:bindArgs fd ⟨[],[]⟩=pure []):∀ (s:Shared) (vals:List Value),vals.length=([]:List Str).length→BindsTo s fd ⟨vals,[]⟩ (([]:List Str).zip vals)
  | s,[],_=>BindsTo.of_eq h
  | _,_::_,e=>by simp at e
theorem bind3 {fd:FuncData} {p q r:Str} (h:∀ a b c:Value,bindArgs fd ⟨[a,b,c],[]⟩=pure [(p,a),(q,b),(r,c)]):∀ (s:Shared) (vals:List Value),vals.length=[p,q,r].length→BindsTo s fd ⟨vals,[]⟩ ([p,q,r].zip vals)
  | s,[a,b,c],_=>BindsTo.of_eq (h a b c)
  | _,[],e=>(nomatch e)
  | _,[_],e=>by simp at e
  | _,[_,_],e=>by simp at e
  | _,_::_::_::_::_,e=>by simp at e
theorem fn_law_hats:FnIs 707 (dU (stM 10)) "_law_hats" [] (aG (stM 10)) (aE (stM 10)) :=
  .mk' (fun _=>by kernel_rfl) (fun _=>by kernel_rfl) (fun _=>bind0 (by kernel_rfl)) (by decide) (by decide +kernel) (by kernel_rfl) (by kernel_rfl) (by kernel_rfl) (by kernel_rfl)
theorem lQ (P:Params):nsIn (Mine.KK P) mainGlobals "_law_hats" = some (some (.ref 707)):=by kernel_rfl
theorem jX (P:Params):keepIn (Mine.KK P) (.ref 707)=true:=by kernel_rfl
theorem fn_law_accents:FnIs 714 (dU (stM 11)) "_law_accents" [] (aG (stM 11)) (aE (stM 11)) :=
  .mk' (fun _=>by kernel_rfl) (fun _=>by kernel_rfl) (fun _=>bind0 (by kernel_rfl)) (by decide) (by decide +kernel) (by kernel_rfl) (by kernel_rfl) (by kernel_rfl) (by kernel_rfl)
theorem kU (P:Params):nsIn (Mine.KK P) mainGlobals "_law_accents" = some (some (.ref 714)):=by kernel_rfl
theorem jK (P:Params):keepIn (Mine.KK P) (.ref 714)=true:=by kernel_rfl
theorem fn_law_foreign:FnIs 721 (dU (stM 12)) "_law_foreign" [] (aG (stM 12)) (aE (stM 12)) :=
  .mk' (fun _=>by kernel_rfl) (fun _=>by kernel_rfl) (fun _=>bind0 (by kernel_rfl)) (by decide) (by decide +kernel) (by kernel_rfl) (by kernel_rfl) (by kernel_rfl) (by kernel_rfl)
theorem g_law_foreign (P:Params):nsIn (Mine.KK P) mainGlobals "_law_foreign" = some (some (.ref 721)):=by kernel_rfl
theorem kp_law_foreign (P:Params):keepIn (Mine.KK P) (.ref 721)=true:=by kernel_rfl
theorem fn_law_vowels:FnIs 728 (dU (stM 13)) "_law_vowels" [] (aG (stM 13)) (aE (stM 13)) :=
  .mk' (fun _=>by kernel_rfl) (fun _=>by kernel_rfl) (fun _=>bind0 (by kernel_rfl)) (by decide) (by decide +kernel) (by kernel_rfl) (by kernel_rfl) (by kernel_rfl) (by kernel_rfl)
theorem g_law_vowels (P:Params):nsIn (Mine.KK P) mainGlobals "_law_vowels" = some (some (.ref 728)):=by kernel_rfl
theorem kp_law_vowels (P:Params):keepIn (Mine.KK P) (.ref 728)=true:=by kernel_rfl
theorem fn_law_digits:FnIs 735 (dU (stM 14)) "_law_digits" [] (aG (stM 14)) (aE (stM 14)) :=
  .mk' (fun _=>by kernel_rfl) (fun _=>by kernel_rfl) (fun _=>bind0 (by kernel_rfl)) (by decide) (by decide +kernel) (by kernel_rfl) (by kernel_rfl) (by kernel_rfl) (by kernel_rfl)
theorem iU (P:Params):nsIn (Mine.KK P) mainGlobals "_law_digits" = some (some (.ref 735)):=by kernel_rfl
theorem hO (P:Params):keepIn (Mine.KK P) (.ref 735)=true:=by kernel_rfl
theorem fn_law_shapes:FnIs 751 (dU (stM 24)) "_law_shapes" [] (aG (stM 24)) (aE (stM 24)) :=
  .mk' (fun _=>by kernel_rfl) (fun _=>by kernel_rfl) (fun _=>bind0 (by kernel_rfl)) (by decide) (by decide +kernel) (by kernel_rfl) (by kernel_rfl) (by kernel_rfl) (by kernel_rfl)
theorem iT (P:Params):nsIn (Mine.KK P) mainGlobals "_law_shapes" = some (some (.ref 751)):=by kernel_rfl
theorem hM (P:Params):keepIn (Mine.KK P) (.ref 751)=true:=by kernel_rfl
theorem nP:FnIs 759 (dU (stM 26)) "_law_bare" [("part" : Str),("offs" : Str),("bases" : Str)] (aG (stM 26)) (aE (stM 26)) :=
  .mk' (fun _=>by kernel_rfl) (fun _=>by kernel_rfl) (fun _=>bind3 (by intros; kernel_rfl)) (by decide) (by decide +kernel) (by kernel_rfl) (by kernel_rfl) (by kernel_rfl) (by kernel_rfl)
theorem eL (P:Params):nsIn (Mine.KK P) mainGlobals "_law_bare" = some (some (.ref 759)):=by kernel_rfl
theorem dS (P:Params):keepIn (Mine.KK P) (.ref 759)=true:=by kernel_rfl
theorem fn_law_stem:FnIs 764 (dU (stM 27)) "_law_stem" [("word" : Str)] (aG (stM 27)) (aE (stM 27)) :=
  .mk' (fun _=>by kernel_rfl) (fun _=>by kernel_rfl) (fun _=>jE (by intros; kernel_rfl)) (by decide) (by decide +kernel) (by kernel_rfl) (by kernel_rfl) (by kernel_rfl) (by kernel_rfl)
theorem g_law_stem (P:Params):nsIn (Mine.KK P) mainGlobals "_law_stem" = some (some (.ref 764)):=by kernel_rfl
theorem nG (P:Params):keepIn (Mine.KK P) (.ref 764)=true:=by kernel_rfl
theorem nO:FnIs 769 (dU (stM 28)) "_law_word" [("numbers" : Str)] (aG (stM 28)) (aE (stM 28)) :=
  .mk' (fun _=>by kernel_rfl) (fun _=>by kernel_rfl) (fun _=>jE (by intros; kernel_rfl)) (by decide) (by decide +kernel) (by kernel_rfl) (by kernel_rfl) (by kernel_rfl) (by kernel_rfl)
theorem g_law_word (P:Params):nsIn (Mine.KK P) mainGlobals "_law_word" = some (some (.ref 769)):=by kernel_rfl
theorem kp_law_word (P:Params):keepIn (Mine.KK P) (.ref 769)=true:=by kernel_rfl
noncomputable def strLook (v:Value) (x:T):Bool:=match v with
  | .str s _=>s == S x && x.length≤1000
  | _=>false
theorem strLook_ok {v:Value} {x:T} (h:strLook v x=true):StrV x v:=by
  unfold strLook at h
  split at h
  · rename_i s t
    simp only [Bool.and_eq_true,beq_iff_eq,decide_eq_true_eq] at h
    exact ⟨t,by rw [h.1],Nat.le_trans h.2 (by decide)⟩
  · cases h
noncomputable def mF:List Value→List T→Bool
  | [],[]=>true
  | v::vs,x::xs=>strLook v x && mF vs xs
  | _,_=>false
theorem mR:∀ {vs:List Value} {xs:List T},mF vs xs=true→All2 StrV xs vs
  | [],[],_=>.nil
  | v::vs,x::xs,h=>by
    obtain ⟨h1,h2⟩:=Bool.and_eq_true_iff.mp (show (strLook v x && mF vs xs)=true from h)
    exact .cons (strLook_ok h1) (mR h2)
  | [],_::_,h=>by cases h
  | _::_,[],h=>by cases h
noncomputable def tlLook (P:Params) (a:Addr) (l:List T):Bool:=match (Mine.KK P).lookup a with
  | some ⟨.type "list",_,.seq vs _,_⟩=>mF vs.toList l
  | _=>false
theorem eB {P:Params} {imm:List (Addr×Obj)} {a:Addr} {l:List T} (h:tlLook P a l=true):VR P imm (.tl l) (.ref a):=by
  unfold tlLook at h
  split at h
  · rename_i dd vs n sl e
    exact ⟨vs,⟨a,_,n,rfl,.inr e,rfl,rfl⟩,mR h⟩
  · cases h
theorem gO (P:Params):nsIn (Mine.KK P) mainGlobals "_law_pronouns" = some (some (.ref 736)):=by kernel_rfl
theorem gG (P:Params) (imm:List (Addr×Obj)):VR P imm (.tl PRON) (.ref 736):=eB (by kernel_rfl)
theorem kB (P:Params):nsIn (Mine.KK P) mainGlobals "_law_verbs" = some (some (.ref 737)):=by kernel_rfl
theorem jO (P:Params) (imm:List (Addr×Obj)):VR P imm (.tl VERB) (.ref 737):=eB (by kernel_rfl)
theorem hU (P:Params):nsIn (Mine.KK P) mainGlobals "_law_adverbs" = some (some (.ref 738)):=by kernel_rfl
theorem gX (P:Params) (imm:List (Addr×Obj)):VR P imm (.tl ADV) (.ref 738):=eB (by kernel_rfl)
theorem kA (P:Params):nsIn (Mine.KK P) mainGlobals "_law_where" = some (some (.ref 739)):=by kernel_rfl
theorem jN (P:Params) (imm:List (Addr×Obj)):VR P imm (.tl kE) (.ref 739):=eB (by kernel_rfl)
theorem jZ (P:Params):nsIn (Mine.KK P) mainGlobals "_law_which" = some (some (.ref 740)):=by kernel_rfl
theorem jM (P:Params) (imm:List (Addr×Obj)):VR P imm (.tl lD) (.ref 740):=eB (by kernel_rfl)
theorem kC (P:Params):nsIn (Mine.KK P) mainGlobals "_law_stays" = some (some (.ref 741)):=by kernel_rfl
theorem jP (P:Params) (imm:List (Addr×Obj)):VR P imm (.tl STAY) (.ref 741):=eB (by kernel_rfl)
theorem gP (P:Params):nsIn (Mine.KK P) mainGlobals "_law_numerals" = some (some (.ref 742)):=by kernel_rfl
theorem gH (P:Params) (imm:List (Addr×Obj)):VR P imm (.tl NUMR) (.ref 742):=eB (by kernel_rfl)
theorem lP (P:Params):nsIn (Mine.KK P) mainGlobals "_law_ones" = some (some (.ref 743)):=by kernel_rfl
theorem lG (P:Params) (imm:List (Addr×Obj)):VR P imm (.tl ONES) (.ref 743):=eB (by kernel_rfl)
theorem g_law_ends (P:Params):nsIn (Mine.KK P) mainGlobals "_law_ends" = some (some (.ref 744)):=by kernel_rfl
theorem v_law_ends (P:Params) (imm:List (Addr×Obj)):VR P imm (.tl ENDS) (.ref 744):=eB (by kernel_rfl)
theorem lZ (P:Params):nsIn (Mine.KK P) mainGlobals "_law_pieces" = some (some (.ref 752)):=by kernel_rfl
theorem lT (P:Params) (imm:List (Addr×Obj)):VR P imm (.tl PIEC) (.ref 752):=eB (by kernel_rfl)
section
variable {d:Nat} {sc:Scope} {st st₁ st₂ st':Sx}
theorem Ev.glob {x:Str} {p:Pos} {v:SV} {V:Value} (e:∀ P:Params,nsIn (Mine.KK P) mainGlobals x=some (some V)) (hv:∀ P imm,VR P imm v V) (hl:sc.names.lookup x=some .globalImplicit) (hd:(x == ("__debug__" : Str))=false) :
    Ev d sc (.Name x p) st v st:=.mk fun c imm s O R hs I=>e_glob O I (e c.P) (hv _ _) (hs▸hl) hd
theorem Ev.callF {f:Str} {fa:Addr} {pf p:Pos} {e:Expr} {es:List Expr} {vs:List SV} {v:SV} {f':Mu} (hf:∀ P:Params,nsIn (Mine.KK P) mainGlobals f=some (some (.ref fa))) (hk:∀ P:Params,keepIn (Mine.KK P) (.ref fa)=true)
    (hl:sc.names.lookup f=some .globalImplicit) (hd:(f == ("__debug__" : Str))=false) (hargs:Evs d sc (e::es) st vs st₁) (hc:CallOK d fa vs st₁.f v f') (h1:bU e=true:=by rfl) (h2:es.all bU=true:=by rfl) :
    Ev d sc (.Call (.Name f pf) (e::es) [] p) st v ⟨st₁.loc,f'⟩:=.mk fun c imm s O R hcs I=>by
  obtain ⟨g,m,mt,T,F,N,B,D,MO,ND,LO⟩:=id I.ex
  refine Call_ (name_K F (Inv.X O B) (Inv.TR O B) (hf c.P) ?_ O.kind (hcs▸hl) hd)
  refine callWith_K (Inv.X O B) (hk c.P) ?_ (aV h1) (gT h2)
  refine wpAny_mono (hargs.run c imm s p O R hcs I) (fun Vs s₂ q=>?_) fun _ _ f=>f.elim
  obtain ⟨imm₂,x₂,I₂,q₂⟩:=q
  obtain ⟨g₂,m₂,mt₂,T₂,F₂,N₂,B₂,D₂,MO₂,ND₂,LO₂⟩:=id I₂.ex
  refine ⟨(Inv.X O B₂).keeps F₂.keep,?_⟩
  refine wpAny_call (codeAny_mono (hc.run c imm₂ s₂ st₁.loc Vs O R I₂ q₂) fun r s₃ q=>?_)
  cases r with
  | error e=>exact q.elim
  | ok f =>
    cases f with
    | ret V=>exact cJ x₂ q
    | _=>exact q.elim
theorem Ev.callF0 {f:Str} {fa:Addr} {pf p:Pos} {v:SV} {f':Mu} (hf:∀ P:Params,nsIn (Mine.KK P) mainGlobals f=some (some (.ref fa))) (hk:∀ P:Params,keepIn (Mine.KK P) (.ref fa)=true)
    (hl:sc.names.lookup f=some .globalImplicit) (hd:(f == ("__debug__" : Str))=false) (hc:CallOK d fa [] st.f v f') :
    Ev d sc (.Call (.Name f pf) [] [] p) st v ⟨st.loc,f'⟩:=.mk fun c imm s O R hcs I=>by
  obtain ⟨g,m,mt,T,F,N,B,D,MO,ND,LO⟩:=id I.ex
  refine Call_ (name_K F (Inv.X O B) (Inv.TR O B) (hf c.P) ?_ O.kind (hcs▸hl) hd)
  refine callWith_K0 ((Inv.X O B).keeps F.keep) (hk c.P) ?_
  refine wpAny_call (codeAny_mono (hc.run c imm s st.loc [] O R I .nil) fun r s₃ q=>?_)
  cases r with
  | error e=>exact q.elim
  | ok f =>
    cases f with
    | ret V=>exact q
    | _=>exact q.elim
theorem CallOK.pure {fa:Addr} {name qual:Str} {ps:List Str} {body:List Stmt} {scope:Scope} {args:List SV} {fl:Fl} {v:SV} (FI:FnIs fa name qual ps body scope) (hl:args.length=ps.length)
    (hv:fl=.ret v∨(fl=.next∧v=.none)) (h:Exs d scope body ⟨ps.zip args,.none⟩ fl st'):∀ f:Mu,CallOK (d+1) fa args f v f:=fun f=>.mk fun c imm s loc Vs O R I hargs=>by
  obtain ⟨g,m,mt,T,F,N,B,D,MO,ND,LO⟩:=id I.ex
  obtain ⟨params,dV,kV,doc,pm,cdv,ct,oc,an,od,osl,hk,hcd,hbind⟩:=FI.look c.P
  have hVl:Vs.length=ps.length:=by rw [← hargs.length]; exact hl
  refine code_defS (prog:=pw) (w:=c.w) (K:=c.K) (mean:=c.mean) (mg:=c.mg) (mb:=c.mb) (p:=qv) (loose:=looseW qv lo) (g₀:=c.g₀) (news:=mt++(imm++c.rest)) (outer:=c.outer) (cn:=c.qual) (cs:=c.scope) (a:=c.fa) (ccd:=c.cd) (binds:=ps.zip Vs)
    B F (Inv.X O B) N (O.TB.keeps B.stays) O.XB O.TB D T (Around.frames_deeper B.stack) hk hcd (by have:=R.1; lia) (hbind s Vs hVl) (fun y hy=>FI.loc _ (List.of_mem_zip hy).1) (fun g₁ L' h₁ FG F' N' B' X' T' D'=>?_) O.kind FI.co FI.gen FI.kind FI.cell
  let c':Cx:={ c with A₀:=c.A,outer:=c.env::c.outer,qual:=qual,scope:=scope,L:=L',fa:=fa,cd:=cdv,g₀:=g₁,rest:=mt++c.rest }
  have perm:∀ i:List (Addr×Obj),List.Perm (mt++(i++c.rest)) (i++(mt++c.rest)):=fun i=>by
    rw [← List.append_assoc,← List.append_assoc]
    exact (List.perm_append_comm).append_right _
  have O':CxOK c':=⟨O.XB,O.TB,FI.kind,O.handled⟩
  have R':Room c' d:=⟨by have:=R.1; show c.A.depth+1+d < _; lia,by have:=R.2; show c.A.units+3+3 * d+40≤_; lia⟩
  have I':Inv c' imm ⟨ps.zip args,.none⟩ { s with heap:=h₁,toks:=s.toks+(ps.zip Vs).length }:=by
    refine ⟨I.sh,g₁,_,[],KtsTurn.refl,F',fun q hq=>N' q ((perm imm).mem_iff.mpr hq),B',D',rfl,((perm imm).map _).nodup_iff.mp ND,mN FI.nodup hl hargs⟩
  refine wpAny_mono (h.run c' imm _ O' R' rfl I') (fun F₁ s₁ q=>?_) fun e s₁ q=>?_
  · have fin:∀ imm₁ V,Ext imm imm₁→Inv c' imm₁ st' s₁→VR c.P imm₁ v V→LeaveS ((envOf c.qual c.scope c.L c.fa c.cd::c.outer).filterMap (·.frame)) c.A₀ c.base c.outer c.K qv (looseW qv Mine.lo) c.mean c.mg c.mb c.g₀ g c.L m g₁
        (fun r s'=>match r with | .ok (.ret V)=>QV c imm ⟨loc,f⟩ v V s' | _=>False) V s₁:=fun imm₁ V x₁ I₁ hV=>by
      obtain ⟨g₂,m₂,mt₂,T₂,F₂,N₂,B₂,D₂,MO₂,ND₂,LO₂⟩:=id I₁.ex
      have hsub:∀ q∈mt++(imm₁++c.rest),q∈mt₂++(imm₁++(mt++c.rest)):=fun q hq=>List.mem_append_right _ ((perm imm₁).mem_iff.mp hq)
      refine leaveS_r (news':=mt++(imm₁++c.rest)) F₂ (fun q hq=>N₂ q (hsub q hq)) T₂ fun h₀' T₃ F₃ N₃ B₃ X₃ P₃ D₃=>?_
      refine ⟨imm₁,x₁,⟨I₁.sh,h₀',m,mt,T₃,F₃,N₃,B₃,D₃,MO,?_,fun x v e=>?_⟩,hV⟩
      · have h1:((imm₁++(mt++c.rest)).map (·.1)).Nodup:=((List.sublist_append_right mt₂ _).map _).nodup ND₂
        exact ((perm imm₁).map _).nodup_iff.mpr h1
      · obtain ⟨W,a,b⟩:=LO x v e
        exact ⟨W,a,b.mono x₁.mem⟩
    rcases hv with rfl | ⟨rfl,rfl⟩
    · obtain ⟨V,rfl,imm₁,x₁,I₁,q₁⟩:=q
      exact fin imm₁ V x₁ I₁ q₁
    · obtain ⟨rfl,imm₁,x₁,I₁⟩:=q
      exact fin imm₁ .none x₁ I₁ rfl
  · rcases hv with rfl | ⟨rfl,rfl⟩ <;> exact q.elim
end
noncomputable abbrev Bw:=@Ev.glob
noncomputable abbrev Cf:=@CallOK.pure
theorem S_inj {x y:T} (h:S x=S y):x=y:=by
  have:=congrArg (fun s=>s.cps.toList) h
  exact this
theorem iY:∀ {xs:List T} {vs:List Value},All2 StrV xs vs→StrsAre vs (xs.map S)
  | _,_,.nil=>.nil
  | _,_,.cons ⟨t,e,_⟩ r=>by
    subst e
    exact .cons _ t (iY r)
section
variable {c:Cx} {imm:List (Addr×Obj)} {st:Sx} {s:Shared}
theorem Inv.at (O:CxOK c) (I:Inv c imm st s) {a:Addr} {o:Obj} (h:inH c.P imm a o):s.heap.get? a=some o:=by
  rcases h with h | h
  · exact I.immAt h
  · obtain ⟨g,m,mt,T,F,N,B,D,MO,ND,LO⟩:=I.ex
    exact F.keep _ _ (Inv.X O B a o h)
theorem Inv.isList (O:CxOK c) (I:Inv c imm st s) {V:Value} {vs:Array Value} (h:SeqIs c.P imm "list" V vs):∃ a,V=.ref a∧s.heap.IsList a vs:=by
  obtain ⟨a,o,n,rfl,h1,h2,h3⟩:=h
  exact ⟨a,rfl,o,I.at O h1,h2,n,h3⟩
theorem Inv.isTup (O:CxOK c) (I:Inv c imm st s) {V:Value} {vs:Array Value} (h:SeqIs c.P imm "tuple" V vs):∃ a,V=.ref a∧IsTup s.heap a vs:=by
  obtain ⟨a,o,n,rfl,h1,h2,h3⟩:=h
  exact ⟨a,rfl,o,I.at O h1,h2,n,h3⟩
theorem Inv.isLst (I:Inv c imm st s) {a:Addr} {l:List T} (hf:st.f=.lst a l):∃ vs:Array Value,s.heap.IsList a vs∧All2 StrV l vs.toList:=by
  obtain ⟨g,m,mt,T,F,N,B,D,MO,ND,LO⟩:=I.ex
  unfold MutOK at MO
  rw [hf] at MO
  obtain ⟨o,vs,n,rfl,h1,_,h2,h⟩:=MO
  exact ⟨vs,⟨_,(N _ (List.mem_append_left _ (List.mem_singleton.mpr rfl))).1,h1,n,h2⟩,h⟩
theorem Inv.more (I:Inv c imm st s) {h':Heap} {a:Addr} {o:Obj} (ha:s.heap.objs.size≤a)
    (k:∀ g m mt,Fr g c.L s.heap m→News g c.L s.heap (mt++(imm++c.rest))→Fr g c.L h' m∧News g c.L h' ((a,o)::(mt++(imm++c.rest)))) (n:Nat):Inv c ((a,o)::imm) st { s with heap:=h',toks:=n }:=by
  obtain ⟨g,m,mt,T,F,N,B,D,MO,ND,LO⟩:=I.ex
  obtain ⟨F',N'⟩:=k g m mt F N
  have e:List.Perm (mt++(((a,o)::imm)++c.rest)) ((a,o)::(mt++(imm++c.rest))):=List.perm_middle
  refine ⟨I.sh,g,m,mt,T,F',fun p hp=>N' p (e.mem_iff.mp hp),B,D,MO,(e.map (·.1)).nodup_iff.mpr ?_,fun x v q=>?_⟩
  · rw [List.map_cons,List.nodup_cons]
    refine ⟨fun hm=>?_,ND⟩
    obtain ⟨p,hp,hpa⟩:=List.mem_map.mp hm
    have:=Heap.lt_size (N p hp).1
    have hpa':p.1=a:=hpa
    rw [hpa'] at this
    exact absurd ha (Nat.not_le.mpr this)
  · obtain ⟨V,h1,h2⟩:=LO x v q
    exact ⟨V,h1,h2.mono fun p hp=>List.mem_cons_of_mem _ hp⟩
theorem jR {v:SV} {V:Value} {a:Addr} {o:Obj} (I:Inv c ((a,o)::imm) st s) (h:VR c.P ((a,o)::imm) v V):QV c imm st v V s:=⟨_,⟨[(a,o)],rfl⟩,I,h⟩
theorem Inv.put (I:Inv c imm st s) {h':Heap} {a:Addr} {o:Obj} (ha:s.heap.objs.size≤a) (ho:h'.get? a=some o) (hk:∀ b q,s.heap.get? b=some q→h'.get? b=some q) (n:Nat) :
    Inv c ((a,o)::imm) st { s with heap:=h',toks:=n }:=I.more ha (fun g m mt F N=>by
  refine ⟨⟨F.ns.keeps hk,fun b q e=>hk b q (F.keep b q e),F.above⟩,fun p hp=>?_⟩
  rcases List.mem_cons.mp hp with rfl | hp
  · refine ⟨ho,Nat.ne_of_gt (Nat.lt_of_lt_of_le F.ns.lt ha),?_⟩
    cases hq:g.get? a with
    | none=>rfl
    | some q=>exact absurd (Heap.lt_size (F.keep _ _ hq)) (Nat.not_lt.mpr ha)
  · exact ⟨hk _ _ (N p hp).1,(N p hp).2⟩) n
theorem units_lt {d:Nat} (R:Room c d):c.A.units < cLine:=by have:=R.2; lia
end
theorem all2_strs {P:Params} {imm:List (Addr×Obj)}:∀ {xs:List T} {Vs:List Value},All2 (VR P imm) (xs.map SV.str) Vs→All2 StrV xs Vs
  | [],_,.nil=>.nil
  | x::xs,_,.cons h r=>.cons h (all2_strs r)
theorem all2_prs {P:Params} {imm:List (Addr×Obj)}:∀ {xs:List (T×T)} {Vs:List Value},All2 (VR P imm) (xs.map SV.pr) Vs→All2 (PrV P imm) xs Vs
  | [],_,.nil=>.nil
  | x::xs,_,.cons h r=>.cons h (all2_prs r)
structure CmpR (op:CmpOp) (v₁ v₂:SV) (st:Sx) (b:Bool):Prop where
  run:∀ (c:Cx) (imm:List (Addr×Obj)) (V₁ V₂:Value) (s:Shared),CxOK c→c.A.units < cLine→Inv c imm st s→VR c.P imm v₁ V₁→VR c.P imm v₂ V₂ →
  ∀ Q:Value→Shared→Prop,(∀ n,Q (.bool b) { s with toks:=n })→wpAny (model pw c.w) c.A (compareOp op V₁ V₂) Q NoE s
section
variable {d:Nat} {sc:Scope} {st st₁ st₂ st₃ st':Sx}
theorem Ev.cmpR {l r:Expr} {op:CmpOp} {p:Pos} {v₁ v₂:SV} {b:Bool} (hl:Ev d sc l st v₁ st₁) (hr:Ev d sc r st₁ v₂ st₂) (k:CmpR op v₁ v₂ st₂ b) (hm:behindInMarks op r=false:=by rfl) :
    Ev d sc (.Compare l [op] [r] p) st (.bool b) st₂:=.mk fun c imm s O R hs I=>by
  refine wpAny_Compare1 ?_ hm
  exact hl.use O R hs I fun V₁ s₁ imm₁ x₁ I₁ q₁=>hr.use O R hs I₁ fun V₂ s₂ imm₂ x₂ I₂ q₂ =>
    wpAny_mono (k.run c imm₂ V₁ V₂ s₂ O (units_lt R) I₂ (q₁.mono x₂.mem) q₂ (QV c imm st₂ (.bool b)) fun n=>cJ (x₁.trans x₂) (eJ I₂ .bool_ n)) (fun _ _ h=>h) fun _ _ f=>f
theorem Tst.cmpR {l r:Expr} {op:CmpOp} {p:Pos} {v₁ v₂:SV} {b:Bool} (hl:Ev d sc l st v₁ st₁) (hr:Ev d sc r st₁ v₂ st₂) (k:CmpR op v₁ v₂ st₂ b) (hm:behindInMarks op r=false:=by rfl) :
    Tst d sc (.Compare l [op] [r] p) st b st₂:=.mk fun c imm s O R hs I=>by
  refine wpAny_isTrue_Compare1 ?_ hm
  exact hl.use O R hs I fun V₁ s₁ imm₁ x₁ I₁ q₁=>hr.use O R hs I₁ fun V₂ s₂ imm₂ x₂ I₂ q₂ =>
    wpAny_mono (k.run c imm₂ V₁ V₂ s₂ O (units_lt R) I₂ (q₁.mono x₂.mem) q₂ (fun V s'=>wpAny c.M c.A (truthy V) (QB c imm st₂ b) NoE s') fun n=>wpAny_truthy_bool ⟨rfl,imm₂,x₁.trans x₂,I₂.tok n⟩) (fun _ _ h=>h) fun _ _ f=>f
theorem all_eq {xs ys:List T} (hl:xs.length=ys.length):((List.range xs.length).all fun j=>decide (xs[j]?=ys[j]?))=decide (xs=ys):=by
  by_cases h:xs=ys
  · subst h; simp
  · rw [decide_eq_false h]
    cases hq:(List.range xs.length).all fun j=>decide (xs[j]?=ys[j]?) with
    | false=>rfl
    | true =>
      exfalso
      refine h (List.ext_getElem? fun j=>?_)
      by_cases hj:j < xs.length
      · exact of_decide_eq_true (List.all_eq_true.mp hq j (List.mem_range.mpr hj))
      · rw [List.getElem?_eq_none (by lia),List.getElem?_eq_none (by lia)]
theorem all2_at {xs:List T} {vs:Array Value} (h:All2 StrV xs vs.toList) {j:Nat} (hj:j < vs.size):∃ x t,xs[j]?=some x∧vs[j]=.str (S x) t:=by
  have hl:xs.length=vs.size:=by rw [h.length]; simp
  obtain ⟨b,h1,t,h2,_⟩:=h.get (List.getElem?_eq_getElem (l:=xs) (i:=j) (by lia))
  refine ⟨xs[j],t,List.getElem?_eq_getElem (by lia),?_⟩
  rw [Array.getElem?_toList,Array.getElem?_eq_getElem hj] at h1
  cases h1
  exact h2
theorem lists_eqAt {A:Around} {s:Shared} {xs ys:List T} {vs ws:Array Value} (h1:All2 StrV xs vs.toList) (h2:All2 StrV ys ws.toList):∀ j (a:j < vs.size) (b:j < ws.size),EqAt A s vs[j] ws[j] (decide (xs[j]?=ys[j]?)):=fun j a b=>by
  obtain ⟨x,t,e1,e2⟩:=all2_at h1 a
  obtain ⟨y,u,e3,e4⟩:=all2_at h2 b
  rw [e1,e2,e3,e4]
  have:=EqAt.str_str (A:=A) (s:=s) (S x) t (S y) u
  rw [show (S x == S y)=decide (some x=some y) from by
    by_cases h:x=y
    · subst h; simp
    · simp only [Option.some.injEq,decide_eq_false h]; simpa using fun q=>h (S_inj q)] at this
  exact this
theorem cv_eq {c:Cx} {s:Shared} {a b:Addr} {xs ys:List T} {vs ws:Array Value} {Q:Value→Shared→Prop} {E:Value→Shared→Prop} (hu:c.A.units < cLine) (hl:s.heap.IsList a vs) (hb:s.heap.IsList b ws) (h1:All2 StrV xs vs.toList) (h2:All2 StrV ys ws.toList)
    (h:Q (.bool (decide (xs=ys))) s):wpAny (model pw c.w) c.A (compareOp .Eq (.ref a) (.ref b)) Q E s:=by
  have e1:xs.length=vs.size:=by rw [h1.length]; simp
  have e2:ys.length=ws.size:=by rw [h2.length]; simp
  by_cases he:vs.size=ws.size
  · refine eq_listAt hl hb he hu (lists_eqAt h1 h2) ?_
    rw [← e1,all_eq (by lia)]
    exact h
  · refine eq_list_lengthsAt hl hb (by simpa using he) hu ?_
    rw [decide_eq_false (fun q=>he (by rw [← e1,← e2,q]))] at h
    exact h
theorem cv_ne {c:Cx} {s:Shared} {a b:Addr} {xs ys:List T} {vs ws:Array Value} {Q:Value→Shared→Prop} {E:Value→Shared→Prop} (hu:c.A.units < cLine) (hl:s.heap.IsList a vs) (hb:s.heap.IsList b ws) (h1:All2 StrV xs vs.toList) (h2:All2 StrV ys ws.toList)
    (h:Q (.bool (decide (xs≠ys))) s):wpAny (model pw c.w) c.A (compareOp .NotEq (.ref a) (.ref b)) Q E s:=by
  have e1:xs.length=vs.size:=by rw [h1.length]; simp
  have e2:ys.length=ws.size:=by rw [h2.length]; simp
  by_cases he:vs.size=ws.size
  · refine RcNeAt.lists hl hb he hu (lists_eqAt h1 h2) pw c.w E Q ?_
    rw [← e1,all_eq (by lia)]
    rw [show decide (xs≠ys)=!decide (xs=ys) by simp] at h
    exact h
  · refine RcNeAt.lists_lengths hl hb (by simpa using he) hu pw c.w E Q ?_
    have hne:xs≠ys:=fun q=>he (by rw [← e1,← e2,q])
    rw [show decide (xs≠ys)=true from by simp [hne]] at h
    exact h
theorem cr_tl_eq {xs ys:List T} {r:Bool} (h:decide (xs=ys)=r):CmpR .Eq (.tl xs) (.tl ys) st r:=.mk fun c imm V₁ V₂ s O hu I q₁ q₂ Q k=>by
  obtain ⟨vs,h1,h2⟩:=q₁
  obtain ⟨ws,h3,h4⟩:=q₂
  obtain ⟨a,rfl,h5⟩:=I.isList O h1
  obtain ⟨b,rfl,h6⟩:=I.isList O h3
  exact cv_eq hu h5 h6 h2 h4 (h▸k s.toks)
theorem cr_tl_ne {xs ys:List T} {r:Bool} (h:decide (xs≠ys)=r):CmpR .NotEq (.tl xs) (.tl ys) st r:=.mk fun c imm V₁ V₂ s O hu I q₁ q₂ Q k=>by
  obtain ⟨vs,h1,h2⟩:=q₁
  obtain ⟨ws,h3,h4⟩:=q₂
  obtain ⟨a,rfl,h5⟩:=I.isList O h1
  obtain ⟨b,rfl,h6⟩:=I.isList O h3
  exact cv_ne hu h5 h6 h2 h4 (h▸k s.toks)
theorem nS {a:Addr} {l ys:List T} {r:Bool} (hf:st.f=.lst a l) (h:decide (l≠ys)=r):CmpR .NotEq (.lst a) (.tl ys) st r:=.mk fun c imm V₁ V₂ s O hu I q₁ q₂ Q k=>by
  obtain ⟨ws,h3,h4⟩:=q₂
  cases q₁
  obtain ⟨vs,h5,h2⟩:=I.isLst hf
  obtain ⟨b,rfl,h6⟩:=I.isList O h3
  exact cv_ne hu h5 h6 h2 h4 (h▸k s.toks)
theorem cr_il_nil {ns:List Int} {r:Bool} (h:decide (ns=[])=r):CmpR .Eq (.il ns) (.tl []) st r:=.mk fun c imm V₁ V₂ s O hu I q₁ q₂ Q k=>by
  obtain ⟨vs,h1,h2⟩:=q₁
  obtain ⟨ws,h3,h4⟩:=q₂
  obtain ⟨a,rfl,h5⟩:=I.isList O h1
  obtain ⟨b,rfl,h6⟩:=I.isList O h3
  have e1:ns.length=vs.size:=by rw [h2.length]; simp
  have e2:0=ws.size:=by have:=h4.length; simpa using this
  by_cases he:vs.size=ws.size
  · have e3:ns=[]:=List.length_eq_zero_iff.mp (by lia)
    have hv:vs.size=0:=by lia
    refine eq_listAt (e:=fun _=>true) h5 h6 he hu (fun j a b=>by lia) ?_
    rw [decide_eq_true e3] at h
    subst h
    rw [hv]
    exact k s.toks
  · refine eq_list_lengthsAt h5 h6 (by simpa using he) hu ?_
    rw [decide_eq_false (fun q=>he (by rw [← e1,← e2,q]; rfl))] at h
    exact h▸k s.toks
theorem any_S {l:List T} {x:T}:(l.map S).any (· == S x)=decide (x∈l):=by
  rw [Bool.eq_iff_iff]
  simp only [List.any_eq_true,List.mem_map,decide_eq_true_eq,beq_iff_eq]
  constructor
  · rintro ⟨_,⟨y,h,rfl⟩,e⟩; exact S_inj e▸h
  · exact fun h=>⟨_,⟨x,h,rfl⟩,rfl⟩
theorem dW {x:T} {l:List T} {r:Bool} (h:decide (x∈l)=r):CmpOK .In (.str x) (.tl l) r:=.mk fun c imm st V₁ V₂ s O I q₁ q₂ Q k=>by
  obtain ⟨t,rfl,_⟩:=q₁
  obtain ⟨ws,h3,h4⟩:=q₂
  obtain ⟨b,rfl,h6⟩:=I.isList O h3
  exact in_list_strs (vs:=ws.toList) (by simpa using h6) (iY h4) (by rw [any_S,h]; exact k s.toks)
theorem c_tl_nin {x:T} {l:List T} {r:Bool} (h:decide (x ∉ l)=r):CmpOK .NotIn (.str x) (.tl l) r:=.mk fun c imm st V₁ V₂ s O I q₁ q₂ Q k=>by
  obtain ⟨t,rfl,_⟩:=q₁
  obtain ⟨ws,h3,h4⟩:=q₂
  obtain ⟨b,rfl,h6⟩:=I.isList O h3
  refine notin_list_strs (vs:=ws.toList) (by simpa using h6) (iY h4) ?_
  rw [any_S,show (!decide (x∈l))=decide (x ∉ l) by simp,h]
  exact k s.toks
theorem dct_at {P:Params} {w:World} {l:List (T×T)} {kvs:List (Str×Value)} (h:All2 (fun (p:T×T) (kv:Str×Value)=>kv.1=S p.1∧StrV p.2 kv.2) l kvs) (x:T) :
    match l.lookup x with | some y=>∃ V,valueAt kvs (S x)=some V∧StrV y V | none=>valueAt kvs (S x)=none:=by
  induction h with
  | nil=>rfl
  | @cons p kv l m h hr ih =>
    obtain ⟨h1,h2⟩:=h
    rw [show List.lookup x (p::l)=if x=p.1 then some p.2 else l.lookup x from by
      obtain ⟨a,b⟩:=p
      rw [List.lookup_cons]
      by_cases q:x=a
      · subst q; simp
      · rw [if_neg q,show (x == a)=false by simpa using q]]
    unfold valueAt at ih ⊢
    by_cases q:x=p.1
    · rw [if_pos q,List.find?_cons,show decide (kv.1=S x)=true by rw [h1,q]; simp]
      exact ⟨_,rfl,h2⟩
    · rw [if_neg q,List.find?_cons,show decide (kv.1=S x)=false by rw [h1]; simpa using fun e=>q (S_inj e).symm]
      exact ih
theorem mL {x:T} {l:List (T×T)} {r:Bool} (h:(l.lookup x).isSome=r):CmpOK .In (.str x) (.dct l) r:=.mk fun c imm st V₁ V₂ s O I q₁ q₂ Q k=>by
  obtain ⟨t,rfl,_⟩:=q₁
  obtain ⟨a,o,rfl,hm,h1,h2⟩:=q₂
  obtain ⟨kvs,h3,h4⟩:=h2 c.w rfl
  have hd:s.heap.DictOf (PySem.strKind pw c.w) a kvs:=Heap.dictOf_iff.mpr ⟨o,I.at O h1,h3⟩
  have h5:=dct_at (P:=c.P) (w:=c.w) h4 x
  refine wpAny_in_of (strKind_is pw c.w (S x) t) hm hd.mapOf ?_
  rw [show (valueAt kvs (S x)).isSome=r from by
    cases hq:l.lookup x with
    | none=>rw [hq] at h5 h; rw [← h]; exact by rw [(h5:valueAt kvs (S x)=none)]; rfl
    | some y=>rw [hq] at h5 h; obtain ⟨V,h6,_⟩:=h5; rw [h6,← h]; rfl]
  exact k _
end
section
variable {c:Cx} {imm:List (Addr×Obj)} {st:Sx} {s:Shared} {Q:Value→Shared→Prop} {E:Value→Shared→Prop}
theorem kT {V:Value} {vs:Array Value} {e i:Expr} {k:Int} {u:Tok} {x:Value} (hl:∃ a,V=.ref a∧s.heap.IsList a vs) (h0:0≤k) (hfit:k < 2 ^ 63) (hx:vs[k.toNat]?=some x) (hs:noSl i=true) (h:Q x s) :
    wpAny (model pw c.w) c.A (subscriptTail e i V (.int k u)) Q E s:=by
  obtain ⟨a,rfl,hl⟩:=hl
  exact tail_any hl.typeIs slot_list_getitem.lookup (wpAny_getItem_list hl h0 hfit hx h) (fK hs _ _)
theorem idx_last {a:Addr} {vs:Array Value} {e i:Expr} {u:Tok} {x:Value} (hl:s.heap.IsList a vs) (h0:0 < vs.size) (hx:vs[vs.size - 1]?=some x) (hs:noSl i=true) (h:Q x s) :
    wpAny (model pw c.w) c.A (subscriptTail e i (.ref a) (.int (-1) u)) Q E s:=by
  refine tail_any hl.typeIs slot_list_getitem.lookup (wpAny_getItem_list_neg hl (by lia) (by lia) (by lia) ?_ h) (fK hs _ _)
  rw [show ((-1:Int)+vs.size).toNat=vs.size - 1 by lia]
  exact hx
theorem idx_tup {V:Value} {vs:Array Value} {e i:Expr} {k:Nat} {u:Tok} {x:Value} (hl:∃ a,V=.ref a∧IsTup s.heap a vs) (hk:k < 1000) (hx:vs[k]?=some x) (hs:noSl i=true) (h:Q x s) :
    wpAny (model pw c.w) c.A (subscriptTail e i V (.int k u)) Q E s:=by
  obtain ⟨a,rfl,hl⟩:=hl
  have hlt:=(Array.getElem?_eq_some_iff.mp hx).1
  refine tail_any hl.typeIs slot_tuple_getitem.lookup (getItem_tuple hl (by lia) (by lia) (j:=k) ?_ hx h) (fK hs _ _)
  unfold seqIndex?
  have h1:¬ ((k:Int) < 0):=by lia
  have h2:(k:Int) < vs.size:=by lia
  simp [h1,h2]
end
theorem iB {α:Type} {R:α→Value→Prop} {l:List α} {vs:Array Value} (h:All2 R l vs.toList) {k:Nat} {a:α} (hk:l[k]?=some a):∃ V,vs[k]?=some V∧R a V:=by
  obtain ⟨V,h1,h2⟩:=h.get hk
  exact ⟨V,by rw [← Array.getElem?_toList]; exact h1,h2⟩
section
variable {d:Nat} {sc:Scope} {st st₁ st₂ st₃ st':Sx}
theorem Ev.tlIdx {e i:Expr} {p:Pos} {l:List T} {k:Int} {x:T} (he:Ev d sc e st (.tl l) st₁) (hi:Ev d sc i st₁ (.int k) st₂) (hk:0≤k∧k < 1000000) (hx:l[k.toNat]?=some x) (hs:noSl i=true:=by rfl):Ev d sc (.Subscript e i p) st (.str x) st₂:=.mk fun c imm s O R hc I=>by
  refine Subscript_ ?_
  refine he.use O R hc I fun V₁ s₁ imm₁ x₁ I₁ q₁=>hi.use O R hc I₁ fun V₂ s₂ imm₂ x₂ I₂ q₂=>?_
  obtain ⟨vs,h1,h2⟩:=q₁
  obtain ⟨u,rfl⟩:=q₂
  obtain ⟨V,h3,h4⟩:=iB h2 hx
  exact kT (I₂.isList O (h1.mono x₂.mem)) hk.1 (by lia) h3 hs ⟨imm₂,x₁.trans x₂,I₂,h4⟩
theorem Ev.ilIdx {e i:Expr} {p:Pos} {l:List Int} {k:Int} {x:Int} (he:Ev d sc e st (.il l) st₁) (hi:Ev d sc i st₁ (.int k) st₂) (hk:0≤k∧k < 1000000) (hx:l[k.toNat]?=some x) (hs:noSl i=true:=by rfl):Ev d sc (.Subscript e i p) st (.int x) st₂:=.mk fun c imm s O R hc I=>by
  refine Subscript_ ?_
  refine he.use O R hc I fun V₁ s₁ imm₁ x₁ I₁ q₁=>hi.use O R hc I₁ fun V₂ s₂ imm₂ x₂ I₂ q₂=>?_
  obtain ⟨vs,h1,h2⟩:=q₁
  obtain ⟨u,rfl⟩:=q₂
  obtain ⟨V,h3,h4⟩:=iB h2 hx
  exact kT (I₂.isList O (h1.mono x₂.mem)) hk.1 (by lia) h3 hs ⟨imm₂,x₁.trans x₂,I₂,h4⟩
theorem Ev.plIdx {e i:Expr} {p:Pos} {l:List (T×T)} {k:Int} {x:T×T} (he:Ev d sc e st (.pl l) st₁) (hi:Ev d sc i st₁ (.int k) st₂) (hk:0≤k∧k < 1000000) (hx:l[k.toNat]?=some x) (hs:noSl i=true:=by rfl):Ev d sc (.Subscript e i p) st (.pr x) st₂:=.mk fun c imm s O R hc I=>by
  refine Subscript_ ?_
  refine he.use O R hc I fun V₁ s₁ imm₁ x₁ I₁ q₁=>hi.use O R hc I₁ fun V₂ s₂ imm₂ x₂ I₂ q₂=>?_
  obtain ⟨vs,h1,h2⟩:=q₁
  obtain ⟨u,rfl⟩:=q₂
  obtain ⟨V,h3,h4⟩:=iB h2 hx
  exact kT (I₂.isList O (h1.mono x₂.mem)) hk.1 (by lia) h3 hs ⟨imm₂,x₁.trans x₂,I₂,h4.mono x₂.mem⟩
theorem Ev.prFst {e i:Expr} {p:Pos} {x:T×T} (he:Ev d sc e st (.pr x) st₁) (hi:Ev d sc i st₁ (.int 0) st₂) (hs:noSl i=true:=by rfl):Ev d sc (.Subscript e i p) st (.str x.1) st₂:=.mk fun c imm s O R hc I=>by
  refine Subscript_ ?_
  refine he.use O R hc I fun V₁ s₁ imm₁ x₁ I₁ q₁=>hi.use O R hc I₁ fun V₂ s₂ imm₂ x₂ I₂ q₂=>?_
  obtain ⟨v,w,h1,h2,h3⟩:=q₁
  obtain ⟨u,rfl⟩:=q₂
  exact idx_tup (k:=0) (I₂.isTup O (h1.mono x₂.mem)) (by lia) rfl hs ⟨imm₂,x₁.trans x₂,I₂,h2⟩
theorem Ev.prSnd {e i:Expr} {p:Pos} {x:T×T} (he:Ev d sc e st (.pr x) st₁) (hi:Ev d sc i st₁ (.int 1) st₂) (hs:noSl i=true:=by rfl):Ev d sc (.Subscript e i p) st (.str x.2) st₂:=.mk fun c imm s O R hc I=>by
  refine Subscript_ ?_
  refine he.use O R hc I fun V₁ s₁ imm₁ x₁ I₁ q₁=>hi.use O R hc I₁ fun V₂ s₂ imm₂ x₂ I₂ q₂=>?_
  obtain ⟨v,w,h1,h2,h3⟩:=q₁
  obtain ⟨u,rfl⟩:=q₂
  exact idx_tup (k:=1) (I₂.isTup O (h1.mono x₂.mem)) (by lia) rfl hs ⟨imm₂,x₁.trans x₂,I₂,h3⟩
theorem Ev.lstIdx {e i:Expr} {p:Pos} {a:Addr} {l:List T} {k:Int} {x:T} (he:Ev d sc e st (.lst a) st₁) (hi:Ev d sc i st₁ (.int k) st₂) (hf:st₂.f=.lst a l) (hk:0≤k∧k < 1000000) (hx:l[k.toNat]?=some x) (hs:noSl i=true:=by rfl):Ev d sc (.Subscript e i p) st (.str x) st₂:=.mk fun c imm s O R hc I=>by
  refine Subscript_ ?_
  refine he.use O R hc I fun V₁ s₁ imm₁ x₁ I₁ q₁=>hi.use O R hc I₁ fun V₂ s₂ imm₂ x₂ I₂ q₂=>?_
  cases q₁
  obtain ⟨u,rfl⟩:=q₂
  obtain ⟨vs,h1,h2⟩:=I₂.isLst hf
  obtain ⟨V,h3,h4⟩:=iB h2 hx
  exact kT ⟨a,rfl,h1⟩ hk.1 (by lia) h3 hs ⟨imm₂,x₁.trans x₂,I₂,h4⟩
theorem Ev.lstLast {e i:Expr} {p:Pos} {a:Addr} {l:List T} {x:T} (he:Ev d sc e st (.lst a) st₁) (hi:Ev d sc i st₁ (.int (-1)) st₂) (hf:st₂.f=.lst a (l++[x])) (hs:noSl i=true:=by rfl):Ev d sc (.Subscript e i p) st (.str x) st₂:=.mk fun c imm s O R hc I=>by
  refine Subscript_ ?_
  refine he.use O R hc I fun V₁ s₁ imm₁ x₁ I₁ q₁=>hi.use O R hc I₁ fun V₂ s₂ imm₂ x₂ I₂ q₂=>?_
  cases q₁
  obtain ⟨u,rfl⟩:=q₂
  obtain ⟨vs,h1,h2⟩:=I₂.isLst hf
  have hl:vs.size=l.length+1:=by have:=h2.length; simp at this; lia
  obtain ⟨V,h3,h4⟩:=iB h2 (k:=l.length) (a:=x) (by simp)
  exact idx_last h1 (by lia) (by rw [hl]; exact h3) hs ⟨imm₂,x₁.trans x₂,I₂,h4⟩
theorem Ev.dctIdx {e i:Expr} {p:Pos} {l:List (T×T)} {k x:T} (he:Ev d sc e st (.dct l) st₁) (hi:Ev d sc i st₁ (.str k) st₂) (hx:l.lookup k=some x) (hs:noSl i=true:=by rfl):Ev d sc (.Subscript e i p) st (.str x) st₂:=.mk fun c imm s O R hc I=>by
  refine Subscript_ ?_
  refine he.use O R hc I fun V₁ s₁ imm₁ x₁ I₁ q₁=>hi.use O R hc I₁ fun V₂ s₂ imm₂ x₂ I₂ q₂=>?_
  obtain ⟨a,o,rfl,hm,h1,h2⟩:=q₁
  obtain ⟨u,rfl,_⟩:=q₂
  obtain ⟨kvs,h3,h4⟩:=h2 c.w rfl
  have hd:s₂.heap.DictOf (PySem.strKind pw c.w) a kvs:=Heap.dictOf_iff.mpr ⟨o,I₂.at O (h1.mono x₂.mem),h3⟩
  have h5:=dct_at (P:=c.P) (w:=c.w) h4 k
  rw [hx] at h5
  obtain ⟨V,h6,h7⟩:=h5
  exact tail_any hd.typeIs slot_dict_getitem.lookup (wpAny_getItem_of (strKind_is pw c.w (S k) u) hd.mapOf h6 ⟨imm₂,x₁.trans x₂,I₂.tok _,h7⟩) (fK hs _ _)
theorem Ev.tlDisp {es:List Expr} {p:Pos} {xs:List T} (h:Evs d sc es st (xs.map SV.str) st₁) (hn:xs.length≤1000):Ev d sc (.List es p) st (.tl xs) st₁:=.mk fun c imm s O R hc I=>by
  refine List_ (wpAny_mono (h.run c imm s p O R hc I) (fun Vs s₁ q=>?_) fun _ _ f=>f)
  obtain ⟨imm₁,x₁,I₁,q₁⟩:=q
  have hA:=all2_strs q₁
  have hl:Vs.length=xs.length:=hA.length.symm
  refine wpAny_newObj_type ?_ (by show Vs.toArray.size≤sizeLine; rw [List.size_toArray,hl]; exact Nat.le_trans hn (by decide))
  exact cJ x₁ (jR (I₁.new _ rfl) ⟨_,⟨_,_,_,rfl,.inl List.mem_cons_self,rfl,rfl⟩,by simpa using hA⟩)
theorem Ev.plDisp {es:List Expr} {p:Pos} {xs:List (T×T)} (h:Evs d sc es st (xs.map SV.pr) st₁) (hn:xs.length≤1000):Ev d sc (.List es p) st (.pl xs) st₁:=.mk fun c imm s O R hc I=>by
  refine List_ (wpAny_mono (h.run c imm s p O R hc I) (fun Vs s₁ q=>?_) fun _ _ f=>f)
  obtain ⟨imm₁,x₁,I₁,q₁⟩:=q
  have hA:=all2_prs q₁
  have hl:Vs.length=xs.length:=hA.length.symm
  refine wpAny_newObj_type ?_ (by show Vs.toArray.size≤sizeLine; rw [List.size_toArray,hl]; exact Nat.le_trans hn (by decide))
  exact cJ x₁ (jR (I₁.new _ rfl) ⟨_,⟨_,_,_,rfl,.inl List.mem_cons_self,rfl,rfl⟩,by
    rw [List.toList_toArray]
    exact hA.imp fun a b h=>PrV.mono (fun p hp=>List.mem_cons_of_mem _ hp) h⟩)
theorem Ev.tup2 {a b:Expr} {k:Nat} {p:Pos} {x y:T} (ha:Ev d sc a st (.str x) st₁) (hb:Ev d sc b st₁ (.str y) st₂) (h1:bU a=true:=by rfl) (h2:bU b=true:=by rfl):Ev d sc (.Tuple [a,b] k p) st (.pr (x,y)) st₂:=.mk fun c imm s O R hc I=>by
  refine Tuple_ (args_cons ?_ (aV h1))
  refine ha.use O R hc I fun V₁ s₁ imm₁ x₁ I₁ q₁=>args_cons ?_ (aV h2)
  refine hb.use O R hc I₁ fun V₂ s₂ imm₂ x₂ I₂ q₂=>args_nil ?_
  refine wpAny_newObj_type ?_ (by show (2:Nat)≤sizeLine; decide)
  exact cJ (x₁.trans x₂) (jR (I₂.new _ rfl) ⟨V₁,V₂,⟨_,_,_,rfl,.inl List.mem_cons_self,rfl,rfl⟩,q₁,q₂⟩)
theorem strKind_move {w w':World} (h:w'.params=w.params) {o:Obj} {kvs:List (Str×Value)} (H:o.IsDictOf (PySem.strKind pw w) kvs):o.IsDictOf (PySem.strKind pw w') kvs:=by
  obtain ⟨es,ep,h1,h2,h3,h4,h5⟩:=H
  have eh:hashStr w'=hashStr w:=by funext x; unfold hashStr; rw [h]
  have hp:∀ {es:List DictEntry} {kvs:List (Str×Value)},Pairs (PySem.strKind pw w) es kvs→Pairs (PySem.strKind pw w') es kvs:=fun hp=>by
    induction hp with
    | nil=>exact .nil
    | cons a b _ ih=>exact .cons a b ih
  refine ⟨es,ep,h1,h2,fun e he=>?_,hp h4,h5⟩
  obtain ⟨k,a,b⟩:=h3 e he
  exact ⟨k,a,b.trans (by show hashStr w k=hashStr w' k; rw [eh])⟩
theorem flat_dct:∀ {l:List (T×T)} {kvs:List (Str×Value)},(∀ p∈l,p.2.length≤lim)→PyProof.V.FlatPairs PyData.str kvs (l.map fun p=>(PyData.str (S p.1),PyData.str (S p.2)))→All2 (fun (p:T×T) (kv:Str×Value)=>kv.1=S p.1∧StrV p.2 kv.2) l kvs
  | [],kvs,hl,h=>by cases h; exact .nil
  | p::l,kvs,hl,h=>by
    rw [List.map_cons] at h
    generalize hk:PyData.str (S p.1)=kk at h
    generalize hd:PyData.str (S p.2)=dd at h
    cases h with
    | cons a b =>
      cases hk
      subst hd
      obtain ⟨t,rfl⟩:=a.str_inv
      exact .cons ⟨rfl,t,rfl,hl p List.mem_cons_self⟩ (flat_dct (fun q hq=>hl q (List.mem_cons_of_mem _ hq)) b)
theorem k_law (P:Params):(Mine.KK P).lookup 776=some (((Mine.KK P).lookup 776).getD default):=by kernel_rfl
theorem Ev.dctDisp {keys:List (Option Expr)} {vals:List Expr} {p:Pos} {l:List (T×T)} (hD:litPairs keys vals=some (l.map fun p=>(PyData.str (S p.1),PyData.str (S p.2)))) (hs:strKeyed (l.map fun p=>(PyData.str (S p.1),PyData.str (S p.2)))=true) (hn:(strKeysOf (l.map fun p=>(PyData.str (S p.1),PyData.str (S p.2)))).Nodup)
    (hall:keys.all (·.isSome)=true) (hl:keys.length=vals.length) (h0:keys≠[]) (hlen:keys.length≤15) (hlim:∀ p∈l,p.2.length≤lim):Ev d sc (.Dict keys vals p) st (.dct l) st:=.mk fun c imm s O R hc I=>by
  refine Dict_lits_str hD hs hn hall hl h0 hlen fun a o h₁ tk ha ho hT hk=>?_
  obtain ⟨kvs,h1,h2⟩:=hT
  have hsm:(a == sysModules)=false:=by
    have h9:=I.at O (a:=776) (o:=((Mine.KK c.P).lookup 776).getD default) (.inr (k_law _))
    have:sysModules < s.heap.objs.size:=Nat.lt_trans (by decide) (Heap.lt_size h9)
    simpa using Nat.ne_of_gt (Nat.lt_of_lt_of_le this ha)
  exact jR (I.put ha ho hk tk) ⟨a,o,rfl,hsm,.inl List.mem_cons_self,fun w' hw=>⟨kvs,strKind_move hw h1,flat_dct hlim h2⟩⟩
end
noncomputable abbrev Bj:=@Ev.tlDisp
theorem dX {x:T} {j:Int} (h:0≤j):Txt.slice (S x) none (some j)=S (x.take j.toNat):=by
  have core:∀ {j:Int},0≤j→j≤x.length→Txt.slice (S x) none (some j)=S (x.take j.toNat):=fun {j} h0 h1=>by
    have:=StrLaws.sliceText_to (x:=S x) (j:=j) ⟨h0,h1⟩
    rw [show Txt.slice (S x) none (some j)=StrLaws.sliceText (S x) none (some j) from rfl,this]
    show S ((x.drop 0).take (j - 0).toNat)=_
    rw [List.drop_zero,Int.sub_zero]
  by_cases h1:j≤x.length
  · exact core h h1
  · rw [slice_to_beyond (by rw [cD]; lia),cD,core (by lia) (by lia),List.take_of_length_le (by lia),List.take_of_length_le (by lia)]
theorem fL {x:T} {k:Nat} (hk:k≤2):Txt.slice (S x) none (some ((x.length:Int) - k))=S (x.take (x.length - k)):=by
  by_cases h:k≤x.length
  · rw [dX (by lia)]
    congr 2
    lia
  · match x,k,hk,h with
    | [],1,_,_=>exact (by decide:Txt.slice (S []) none (some ((0:Nat) - (1:Nat):Int))=S [])
    | [],2,_,_=>exact (by decide:Txt.slice (S []) none (some ((0:Nat) - (2:Nat):Int))=S [])
    | [a],2,_,_ =>
      have:=StrLaws.sliceText_to_neg (x:=S [a]) (j := -1) (by decide) (by rw [cD]; simp)
      exact this
    | [],0,_,h=>exact absurd (Nat.zero_le _) h
    | [a],0,_,h=>exact absurd (Nat.zero_le _) h
    | [a],1,_,h=>exact absurd (by simp) h
    | a::b::r,k,hk,h=>exact absurd (by simp; lia) h
theorem lC {α β:Type} {R:α→β→Prop}:∀ {l:List α} {m:List β} (n:Nat),All2 R l m→All2 R (l.drop n) (m.drop n)
  | _,_,0,h=>h
  | _,_,n+1,.nil=>.nil
  | _,_,n+1,.cons _ h=>lC n h
section
variable {d:Nat} {sc:Scope} {st st₁ st₂ st₃ st':Sx} {fl:Fl}
theorem Ev.sliceTo {e b:Expr} {p q:Pos} {x y:T} {j:Int} (he:Ev d sc e st (.str x) st₁) (hb:Ev d sc b st₁ (.int j) st₂) (h:Txt.slice (S x) none (some j)=S y) (hl:y.length≤x.length) :
    Ev d sc (.Subscript e (.Slice Option.none (some b) Option.none q) p) st (.str y) st₂:=.mk fun c imm s O R hc I=>by
  refine Subscript_ ?_
  refine he.use O R hc I fun V₁ s₁ imm₁ x₁ I₁ q₁=>wpAny_Slice (wpAny_pure (hb.use O R hc I₁ fun V₂ s₂ imm₂ x₂ I₂ q₂=>wpAny_pure ?_))
  obtain ⟨t,rfl,hx⟩:=q₁
  obtain ⟨u,rfl⟩:=q₂
  refine I₂.again fun g m mt T F N B D MO ND LO ag=>?_
  refine slice_strN_ns F N (fun h' t' k F' N'=>?_) rfl (fun r=>gV _ _ _ _) (by rw [cD]; exact Nat.le_trans hx kS)
  rw [h]
  exact ⟨imm₂,x₁.trans x₂,ag h' k F' N',.str_ _ (Nat.le_trans hl hx)⟩
theorem iH {c:Cx} {imm:List (Addr×Obj)} {s:Shared} {xn:Str} {px qq:Pos} {l:Addr} {vs:Array Value} {a:Option Expr} {k:Nat} {u:Tok} (I:Inv c imm st s) (hl:s.heap.IsList l vs) (hsz:vs.size≤100000) {Q:Value→Shared→Prop}
    (h:∀ h' o,Inv c ((s.heap.objs.size+1,o)::imm) st { s with heap:=h' }→SeqIs c.P ((s.heap.objs.size+1,o)::imm) "list" (.ref (s.heap.objs.size+1)) (vs.toList.drop k).toArray→Q (.ref (s.heap.objs.size+1)) { s with heap:=h' }) :
    wpAny (model pw c.w) c.A (subscriptTail (.Name xn px) (.Slice a Option.none Option.none qq) (.ref l) (.ref s.heap.objs.size)) Q NoE { s with heap:=s.heap.push { cls:=.type "slice",data:=.fields #[.int k u,.none,.none] } }:=by
  obtain ⟨g,m,mt,T,F,N,B,D,MO,ND,LO⟩:=id I.ex
  refine slice_list F N hl (.int _ u) .none (fun h' F' N'=>?_) rfl Zn (Nat.le_trans hsz (by decide))
  rw [slicePick_from'] at N'
  have I':Inv c ((s.heap.objs.size+1,{ cls:=.type "list",data:=.seq (vs.toList.drop k).toArray })::imm) st { s with heap:=h' }:=by
    have e:List.Perm (mt++(((s.heap.objs.size+1,{ cls:=.type "list",data:=.seq (vs.toList.drop k).toArray })::imm)++c.rest)) ((s.heap.objs.size+1,{ cls:=.type "list",data:=.seq (vs.toList.drop k).toArray })::(mt++(imm++c.rest))):=List.perm_middle
    refine ⟨I.sh,g,m,mt,T,F',fun p hp=>N' p (e.mem_iff.mp hp),B,D,MO,(e.map (·.1)).nodup_iff.mpr ?_,fun x v q=>?_⟩
    · rw [List.map_cons,List.nodup_cons]
      refine ⟨fun hm=>?_,ND⟩
      obtain ⟨p,hp,hpa⟩:=List.mem_map.mp hm
      have h1:=Heap.lt_size (N p hp).1
      have hpa':p.1=s.heap.objs.size+1:=hpa
      rw [hpa'] at h1
      exact absurd h1 (Nat.not_lt.mpr (Nat.le_succ _))
    · obtain ⟨V,h1,h2⟩:=LO x v q
      exact ⟨V,h1,h2.mono fun p hp=>List.mem_cons_of_mem _ hp⟩
  exact h h' _ I' ⟨_,_,_,rfl,.inl List.mem_cons_self,rfl,rfl⟩
theorem Ev.ilFrom {xn:Str} {px p q:Pos} {a:Expr} {l:List Int} {k:Nat} (he:Ev d sc (.Name xn px) st (.il l) st₁) (ha:Ev d sc a st₁ (.int k) st₂) (hl:l.length≤100000) :
    Ev d sc (.Subscript (.Name xn px) (.Slice (some a) Option.none Option.none q) p) st (.il (l.drop k)) st₂:=.mk fun c imm s O R hc I=>by
  refine Subscript_ ?_
  refine he.use O R hc I fun V₁ s₁ imm₁ x₁ I₁ q₁=>wpAny_Slice (ha.use O R hc I₁ fun V₂ s₂ imm₂ x₂ I₂ q₂=>wpAny_pure (wpAny_pure ?_))
  obtain ⟨vs,h1,h2⟩:=q₁
  obtain ⟨u,rfl⟩:=q₂
  obtain ⟨b,rfl,h3⟩:=I₂.isList O (h1.mono x₂.mem)
  have hs:vs.size=l.length:=by rw [h2.length]; simp
  refine iH I₂ h3 (by lia) fun h' o I' hS=>cJ (x₁.trans x₂) (jR I' ⟨_,hS,by simpa using lC k h2⟩)
theorem Ev.lstFrom {xn:Str} {px p q:Pos} {a:Expr} {b:Addr} {l:List T} {k:Nat} (he:Ev d sc (.Name xn px) st (.lst b) st₁) (ha:Ev d sc a st₁ (.int k) st₂) (hf:st₂.f=.lst b l) (hl:l.length≤100000) :
    Ev d sc (.Subscript (.Name xn px) (.Slice (some a) Option.none Option.none q) p) st (.tl (l.drop k)) st₂:=.mk fun c imm s O R hc I=>by
  refine Subscript_ ?_
  refine he.use O R hc I fun V₁ s₁ imm₁ x₁ I₁ q₁=>wpAny_Slice (ha.use O R hc I₁ fun V₂ s₂ imm₂ x₂ I₂ q₂=>wpAny_pure (wpAny_pure ?_))
  cases q₁
  obtain ⟨u,rfl⟩:=q₂
  obtain ⟨vs,h3,h2⟩:=I₂.isLst hf
  have hs:vs.size=l.length:=by rw [h2.length]; simp
  refine iH I₂ h3 (by lia) fun h' o I' hS=>cJ (x₁.trans x₂) (jR I' ⟨_,hS,by simpa using lC k h2⟩)
theorem len_at {c:Cx} {imm:List (Addr×Obj)} {s:Shared} {a:Addr} {vs:Array Value} {n:Nat} (I:Inv c imm st s) (hl:s.heap.IsList a vs) (hn:n=vs.size) (hs:n≤100000):wpAny (model pw c.w) c.A (call (.builtin "len") [.ref a]) (QV c imm st (.int n)) NoE s:=by
  subst hn
  exact len_list hl (by lia) ⟨imm,.refl,I.tok _,.int_ _⟩
theorem Ev.lenTl {pf p:Pos} {e:Expr} {l:List T} (hl:sc.names.lookup ("len" : Str)=some .globalImplicit) (he:Ev d sc e st (.tl l) st₁) (hn:l.length≤100000) (hs:bU e=true:=by rfl):Ev d sc (.Call (.Name "len" pf) [e] [] p) st (.int l.length) st₁ :=
  .call1 k_len boot_len (by decide) (by decide) hl he (fun c imm V s O I q=>by
    obtain ⟨vs,h1,h2⟩:=q
    obtain ⟨a,rfl,h3⟩:=I.isList O h1
    exact len_at I h3 (by rw [h2.length]; simp) hn) hs
theorem Ev.lenIl {pf p:Pos} {e:Expr} {l:List Int} (hl:sc.names.lookup ("len" : Str)=some .globalImplicit) (he:Ev d sc e st (.il l) st₁) (hn:l.length≤100000) (hs:bU e=true:=by rfl):Ev d sc (.Call (.Name "len" pf) [e] [] p) st (.int l.length) st₁ :=
  .call1 k_len boot_len (by decide) (by decide) hl he (fun c imm V s O I q=>by
    obtain ⟨vs,h1,h2⟩:=q
    obtain ⟨a,rfl,h3⟩:=I.isList O h1
    exact len_at I h3 (by rw [h2.length]; simp) hn) hs
theorem Ev.lenPl {pf p:Pos} {e:Expr} {l:List (T×T)} (hl:sc.names.lookup ("len" : Str)=some .globalImplicit) (he:Ev d sc e st (.pl l) st₁) (hn:l.length≤100000) (hs:bU e=true:=by rfl):Ev d sc (.Call (.Name "len" pf) [e] [] p) st (.int l.length) st₁ :=
  .call1 k_len boot_len (by decide) (by decide) hl he (fun c imm V s O I q=>by
    obtain ⟨vs,h1,h2⟩:=q
    obtain ⟨a,rfl,h3⟩:=I.isList O h1
    exact len_at I h3 (by rw [h2.length]; simp) hn) hs
theorem Ev.lenLst {pf p:Pos} {e:Expr} {a:Addr} {l:List T} (hl:sc.names.lookup ("len" : Str)=some .globalImplicit) (he:Ev d sc e st (.lst a) st₁) (hf:st₁.f=.lst a l) (hn:l.length≤100000) (hs:bU e=true:=by rfl):Ev d sc (.Call (.Name "len" pf) [e] [] p) st (.int l.length) st₁ :=
  .call1 k_len boot_len (by decide) (by decide) hl he (fun c imm V s O I q=>by
    cases q
    obtain ⟨vs,h3,h2⟩:=I.isLst hf
    exact len_at I h3 (by rw [h2.length]; simp) hn) hs
theorem Ev.ifT {t b o:Expr} {p:Pos} {v:SV} (ht:Tst d sc t st true st₁) (hb:Ev d sc b st₁ v st'):Ev d sc (.IfExp t b o p) st v st':=.mk fun c imm s O R hc I =>
  wpAny_IfExp (ht.use O R hc I fun s' imm' x I'=>by
    rw [if_pos rfl]
    exact wpAny_mono (hb.run c imm' s' O R hc I') (fun _ _=>cJ x) fun _ _ f=>f)
theorem Ev.ifF {t b o:Expr} {p:Pos} {v:SV} (ht:Tst d sc t st false st₁) (hb:Ev d sc o st₁ v st'):Ev d sc (.IfExp t b o p) st v st':=.mk fun c imm s O R hc I =>
  wpAny_IfExp (ht.use O R hc I fun s' imm' x I'=>by
    rw [if_neg (by decide)]
    exact wpAny_mono (hb.run c imm' s' O R hc I') (fun _ _=>cJ x) fun _ _ f=>f)
theorem Tst.and_nil {p:Pos}:Tst d sc (.BoolOp .And [] p) st true st:=.mk fun c imm s O R hs I=>isTrue_and_nil ⟨rfl,imm,.refl,I⟩
theorem Tst.and_f {e:Expr} {r:List Expr} {p:Pos} (h:Tst d sc e st false st'):Tst d sc (.BoolOp .And (e::r) p) st false st':=.mk fun c imm s O R hs I =>
  isTrue_and (h.use O R hs I fun s' imm' x I'=>by rw [if_neg (by decide)]; exact ⟨rfl,imm',x,I'⟩)
theorem Tst.and_t {e:Expr} {r:List Expr} {p:Pos} {b:Bool} (h:Tst d sc e st true st₁) (h':Tst d sc (.BoolOp .And r p) st₁ b st'):Tst d sc (.BoolOp .And (e::r) p) st b st':=.mk fun c imm s O R hs I =>
  isTrue_and (h.use O R hs I fun s' imm' x I'=>by
    rw [if_pos rfl]
    exact wpAny_mono (h'.run c imm' s' O R hs I') (fun _ _=>qb_ext x) fun _ _ f=>f)
theorem Ev.catL {l r:Expr} {p:Pos} {a b:List T} (hl:Ev d sc l st (.tl a) st₁) (hr:Ev d sc r st₁ (.tl b) st₂) (h:a.length+b.length≤100000):Ev d sc (.BinOp l .Add r p) st (.tl (a++b)) st₂ :=
  hl.bin hr fun c imm V₁ V₂ s O R I q₁ q₂=>by
    obtain ⟨vs,h1,h2⟩:=q₁
    obtain ⟨ws,h3,h4⟩:=q₂
    obtain ⟨x,rfl,h5⟩:=I.isList O h1
    obtain ⟨y,rfl,h6⟩:=I.isList O h3
    have e1:=h2.length
    have e2:=h4.length
    obtain ⟨g,m,mt,T,F,N,B,D,MO,ND,LO⟩:=id I.ex
    have hsz:vs.toList.length+ws.toList.length≤sizeLine:=by
      rw [← e1,← e2]
      exact Nat.le_trans h (by decide)
    have key:∀ g' m' mt',Fr g' c.L s.heap m'→News g' c.L s.heap (mt'++(imm++c.rest))→True:=fun _ _ _ _ _=>trivial
    refine add_lists (vs:=vs.toList) (ws:=ws.toList) F N (by simpa using h5) (by simpa using h6) (fun h' F' N'=>?_) hsz
    have I':Inv c ((s.heap.objs.size,{ cls:=.type "list",data:=.seq (vs.toList++ws.toList).toArray })::imm) st₂ { s with heap:=h' }:=by
      have e:List.Perm (mt++(((s.heap.objs.size,{ cls:=.type "list",data:=.seq (vs.toList++ws.toList).toArray })::imm)++c.rest)) ((s.heap.objs.size,{ cls:=.type "list",data:=.seq (vs.toList++ws.toList).toArray })::(mt++(imm++c.rest))):=List.perm_middle
      refine ⟨I.sh,g,m,mt,T,F',fun p hp=>N' p (e.mem_iff.mp hp),B,D,MO,(e.map (·.1)).nodup_iff.mpr ?_,fun x v q=>?_⟩
      · rw [List.map_cons,List.nodup_cons]
        refine ⟨fun hm=>?_,ND⟩
        obtain ⟨p,hp,hpa⟩:=List.mem_map.mp hm
        have h1:=Heap.lt_size (N p hp).1
        have hpa':p.1=s.heap.objs.size:=hpa
        rw [hpa'] at h1
        exact absurd h1 (Nat.lt_irrefl _)
      · obtain ⟨V,h1,h2⟩:=LO x v q
        exact ⟨V,h1,h2.mono fun p hp=>List.mem_cons_of_mem _ hp⟩
    refine jR I' ⟨_,⟨_,_,_,rfl,.inl List.mem_cons_self,rfl,rfl⟩,?_⟩
    rw [List.toList_toArray]
    exact h2.app h4
theorem Ev.mod {l r:Expr} {p:Pos} {a b:Int} (hl:Ev d sc l st (.int a) st₁) (hr:Ev d sc r st₁ (.int b) st₂) (hb:b≠0):Ev d sc (.BinOp l .Mod r p) st (.int (a.fmod b)) st₂ :=
  hl.bin hr fun c imm V₁ V₂ s O R I q₁ q₂=>by
    obtain ⟨t,rfl⟩:=q₁
    obtain ⟨u,rfl⟩:=q₂
    exact mod_int' hb (eJ I (.int_ _) _)
theorem hZ {x:T}:CmpOK .IsNot (.str x) .none true:=.mk fun c imm st V₁ V₂ s O I q₁ q₂ Q k=>by
  obtain ⟨t,rfl,_⟩:=q₁
  cases q₂
  exact isnot_str_none (k s.toks)
theorem gA:CmpOK .IsNot .none .none false:=.mk fun c imm st V₁ V₂ s O I q₁ q₂ Q k=>by
  cases q₁
  cases q₂
  exact isnot_none_gen (k s.toks)
end
noncomputable abbrev Bp:=@Tst.and_t
noncomputable abbrev Cd:=@Tst.and_f
noncomputable abbrev Ce:=@Ev.sliceTo
noncomputable def NsO (o:Obj) (m:Str→Option Value):Prop:=∃ es ep,o.data=.dict es ep∧StrKeys es∧∀ name,nsFind es name=m name
theorem NsO.ns {h:Heap} {a:Addr} {o:Obj} {m:Str→Option Value} (x:NsO o m) (e:h.get? a=some o):h.Ns a m:=let ⟨es,ep,r⟩:=x; ⟨o,es,ep,e,r⟩
theorem nsO_of {h:Heap} {a:Addr} {m:Str→Option Value} (x:h.Ns a m):∃ o,h.get? a=some o∧NsO o m:=let ⟨o,es,ep,e,r⟩:=x; ⟨o,e,es,ep,r⟩
structure EvK (d:Nat) (sc cs:Scope) (x:Str) (v:SV) (e:Expr) (st:Sx) (w:SV) (st':Sx):Prop where
  run:∀ (c:Cx) (imm:List (Addr×Obj)) (s:Shared) (C:Addr) (oC:Obj) (m:Str→Option Value) (V:Value),CxOK c→Room c d→c.scope=sc→cs.kind=.function→Inv c imm st s→(C,oC)∈c.rest→NsO oC m→m x=some V→VR c.P imm v V →
    wpAny c.M c.A (eval e (compEnv cs C c.env)) (QV c imm st' w) NoE s
structure TstK (d:Nat) (sc cs:Scope) (x:Str) (v:SV) (e:Expr) (st:Sx) (b:Bool) (st':Sx):Prop where
  run:∀ (c:Cx) (imm:List (Addr×Obj)) (s:Shared) (C:Addr) (oC:Obj) (m:Str→Option Value) (V:Value),CxOK c→Room c d→c.scope=sc→cs.kind=.function→Inv c imm st s→(C,oC)∈c.rest→NsO oC m→m x=some V→VR c.P imm v V →
    wpAny c.M c.A (isTrue e (compEnv cs C c.env) (eval e (compEnv cs C c.env))) (QB c imm st' b) NoE s
theorem Inv.restAt {c:Cx} {imm:List (Addr×Obj)} {st:Sx} {s:Shared} (I:Inv c imm st s) {p:Addr×Obj} (h:p∈c.rest):s.heap.get? p.1=some p.2:=by
  obtain ⟨g,m,mt,T,F,N,B,D,MO,ND,LO⟩:=I.ex
  exact (N p (List.mem_append_right _ (List.mem_append_right _ h))).1
section
variable {d:Nat} {sc cs:Scope} {x:Str} {v:SV} {st st₁ st₂ st':Sx}
theorem EvK.use {e:Expr} {w:SV} (h:EvK d sc cs x v e st w st') {c:Cx} {imm imm₀:List (Addr×Obj)} {s:Shared} {C:Addr} {oC:Obj} {m:Str→Option Value} {V:Value} (O:CxOK c) (R:Room c d) (hs:c.scope=sc) (hk:cs.kind=.function) (x₀:Ext imm₀ imm) (I:Inv c imm st s) (hC:(C,oC)∈c.rest) (hN:NsO oC m) (hm:m x=some V) (hV:VR c.P imm v V)
    {Q:Value→Shared→Prop} {E:Value→Shared→Prop} (k:∀ W s' imm',Ext imm₀ imm'→Inv c imm' st' s'→VR c.P imm' w W→VR c.P imm' v V→Q W s'):wpAny c.M c.A (eval e (compEnv cs C c.env)) Q E s :=
  wpAny_mono (h.run c imm s C oC m V O R hs hk I hC hN hm hV) (fun W s' q=>by obtain ⟨imm',a,b,r⟩:=q; exact k W s' imm' (x₀.trans a) b r (hV.mono a.mem)) fun _ _ f=>f.elim
theorem EvK.var {p:Pos} (hl:cs.names.lookup x=some .local) (hd:(x == ("__debug__" : Str))=false):EvK d sc cs x v (.Name x p) st v st:=.mk fun c imm s C oC m V O R hs hk I hC hN hm hV =>
  wpAny_Name (wpAny_loadName_local (env:=compEnv cs C c.env) hk hl (hN.ns (I.restAt hC)) hm ⟨imm,.refl,I,hV⟩) hd
theorem EvK.glob {y:Str} {p:Pos} {w:SV} {W:Value} (e:∀ P:Params,nsIn (Mine.KK P) mainGlobals y=some (some W)) (hv:∀ P imm,VR P imm w W) (hl:cs.names.lookup y=some .globalImplicit) (hd:(y == ("__debug__" : Str))=false):EvK d sc cs x v (.Name y p) st w st:=.mk fun c imm s C oC m V O R hs hk I hC hN hm hV=>by
  obtain ⟨g,m',mt,T,F,N,B,D,MO,ND,LO⟩:=id I.ex
  exact Calls.Name_function_global hk hl (Calls.loadGlobal_global (env:=compEnv cs C c.env) ((Inv.TR O B).g.keeps F.keep) (mg_of (Inv.X O B) (Inv.TR O B).g (e c.P)) ⟨imm,.refl,I,hv _ _⟩) hd
theorem EvK.callF0 {f:Str} {fa:Addr} {pf p:Pos} {w:SV} (hf:∀ P:Params,nsIn (Mine.KK P) mainGlobals f=some (some (.ref fa))) (hkp:∀ P:Params,keepIn (Mine.KK P) (.ref fa)=true)
    (hl:cs.names.lookup f=some .globalImplicit) (hd:(f == ("__debug__" : Str))=false) (hc:∀ f,CallOK d fa [] f w f):EvK d sc cs x v (.Call (.Name f pf) [] [] p) st w st:=.mk fun c imm s C oC m V O R hs hk I hC hN hm hV=>by
  obtain ⟨g,m',mt,T,F,N,B,D,MO,ND,LO⟩:=id I.ex
  refine Call_ (Calls.Name_function_global hk hl (Calls.loadGlobal_global (env:=compEnv cs C c.env) ((Inv.TR O B).g.keeps F.keep) (mg_of (Inv.X O B) (Inv.TR O B).g (hf c.P)) ?_) hd)
  refine callWith_K0 ((Inv.X O B).keeps F.keep) (hkp c.P) ?_
  refine wpAny_call (codeAny_mono ((hc st.f).run c imm s st.loc [] O R I .nil) fun r s₃ q=>?_)
  cases r with
  | error e=>exact q.elim
  | ok f =>
    cases f with
    | ret V=>exact q
    | _=>exact q.elim
theorem EvK.call1 {f:Str} {id:String} {pf p:Pos} {e:Expr} {u u':SV} (hf:∀ P:Params,nsIn (Mine.KK P) mainGlobals f=some none) (hb:bootBuiltins f=some (.builtin id)) (hn:f ≠ "__name__") (hd:(f == ("__debug__" : Str))=false)
    (hl:cs.names.lookup f=some .globalImplicit) (he:EvK d sc cs x v e st u st₁)
    (k:∀ c imm V s,CxOK c→Inv c imm st₁ s→VR c.P imm u V→wpAny (model pw c.w) c.A (call (.builtin id) [V]) (QV c imm st₁ u') NoE s) (hs:bU e=true:=by rfl) :
    EvK d sc cs x v (.Call (.Name f pf) [e] [] p) st u' st₁:=.mk fun c imm s C oC m V O R hsc hk I hC hN hm hV=>by
  obtain ⟨g,m',mt,T,F,N,B,D,MO,ND,LO⟩:=I.ex
  refine Call_ (Calls.Name_function_global hk hl (Calls.loadGlobal_builtin (env:=compEnv cs C c.env) ((Inv.TR O B).g.keeps F.keep) (mg_none_of (Inv.X O B) (Inv.TR O B).g (hf c.P)) ((Inv.TR O B).b.keeps F.keep) (((Inv.TR O B).builtins f hn).trans hb) ?_) hd)
  refine callWith_builtin1 (args_cons ?_ (aV hs)) (aV hs)
  exact he.use O R hsc hk .refl I hC hN hm hV fun W s' imm' x' I' q _=>args_nil (wpAny_mono (k c imm' W s' O I' q) (fun _ _=>cJ x') fun _ _ f=>f.elim)
theorem EvK.lenTl {pf p:Pos} {e:Expr} {l:List T} (hl:cs.names.lookup ("len" : Str)=some .globalImplicit) (he:EvK d sc cs x v e st (.tl l) st₁) (hn:l.length≤100000) (hs:bU e=true:=by rfl):EvK d sc cs x v (.Call (.Name "len" pf) [e] [] p) st (.int l.length) st₁ :=
  .call1 k_len boot_len (by decide) (by decide) hl he (fun c imm V s O I q=>by
    obtain ⟨vs,h1,h2⟩:=q
    obtain ⟨a,rfl,h3⟩:=I.isList O h1
    exact len_at I h3 (by rw [h2.length]; simp) hn) hs
theorem EvK.mod {l r:Expr} {p:Pos} {a b:Int} (hl:EvK d sc cs x v l st (.int a) st₁) (hr:EvK d sc cs x v r st₁ (.int b) st₂) (hb:b≠0):EvK d sc cs x v (.BinOp l .Mod r p) st (.int (a.fmod b)) st₂:=.mk fun c imm s C oC m V O R hs hk I hC hN hm hV=>by
  refine wpAny_BinOp ?_
  refine hl.use O R hs hk .refl I hC hN hm hV fun V₁ s₁ imm₁ x₁ I₁ q₁ hV₁=>hr.use O R hs hk x₁ I₁ hC hN hm hV₁ fun V₂ s₂ imm₂ x₂ I₂ q₂ hV₂=>?_
  obtain ⟨t,rfl⟩:=q₁
  obtain ⟨u,rfl⟩:=q₂
  exact mod_int' hb (cJ x₂ (eJ I₂ (.int_ _) _))
end
section
variable {d:Nat} {sc cs:Scope} {x:Str} {v:SV} {st st₁ st₂ st':Sx}
theorem EvK.tlIdx {e i:Expr} {p:Pos} {l:List T} {k:Int} {y:T} (he:EvK d sc cs x v e st (.tl l) st₁) (hi:EvK d sc cs x v i st₁ (.int k) st₂) (hk:0≤k∧k < 1000000) (hx:l[k.toNat]?=some y) (hs:noSl i=true:=by rfl):EvK d sc cs x v (.Subscript e i p) st (.str y) st₂:=.mk fun c imm s C oC m V O R hc hkk I hC hN hm hV=>by
  refine Subscript_ ?_
  refine he.use O R hc hkk .refl I hC hN hm hV fun V₁ s₁ imm₁ x₁ I₁ q₁ hV₁=>hi.use O R hc hkk .refl I₁ hC hN hm hV₁ fun V₂ s₂ imm₂ x₂ I₂ q₂ hV₂=>?_
  obtain ⟨vs,h1,h2⟩:=q₁
  obtain ⟨u,rfl⟩:=q₂
  obtain ⟨W,h3,h4⟩:=iB h2 hx
  exact kT (I₂.isList O (h1.mono x₂.mem)) hk.1 (by lia) h3 hs ⟨imm₂,x₁.trans x₂,I₂,h4⟩
theorem EvK.dctIdx {e i:Expr} {p:Pos} {l:List (T×T)} {k y:T} (he:EvK d sc cs x v e st (.dct l) st₁) (hi:EvK d sc cs x v i st₁ (.str k) st₂) (hx:l.lookup k=some y) (hs:noSl i=true:=by rfl):EvK d sc cs x v (.Subscript e i p) st (.str y) st₂:=.mk fun c imm s C oC m V O R hc hkk I hC hN hm hV=>by
  refine Subscript_ ?_
  refine he.use O R hc hkk .refl I hC hN hm hV fun V₁ s₁ imm₁ x₁ I₁ q₁ hV₁=>hi.use O R hc hkk .refl I₁ hC hN hm hV₁ fun V₂ s₂ imm₂ x₂ I₂ q₂ hV₂=>?_
  obtain ⟨a,o,rfl,hms,h1,h2⟩:=q₁
  obtain ⟨u,rfl,_⟩:=q₂
  obtain ⟨kvs,h3,h4⟩:=h2 c.w rfl
  have hd:s₂.heap.DictOf (PySem.strKind pw c.w) a kvs:=Heap.dictOf_iff.mpr ⟨o,I₂.at O (h1.mono x₂.mem),h3⟩
  have h5:=dct_at (P:=c.P) (w:=c.w) h4 k
  rw [hx] at h5
  obtain ⟨W,h6,h7⟩:=h5
  exact tail_any hd.typeIs slot_dict_getitem.lookup (wpAny_getItem_of (strKind_is pw c.w (S k) u) hd.mapOf h6 ⟨imm₂,x₁.trans x₂,I₂.tok _,h7⟩) (fK hs _ _)
theorem TstK.cmp {l r:Expr} {op:CmpOp} {p:Pos} {v₁ v₂:SV} {b:Bool} (hl:EvK d sc cs x v l st v₁ st₁) (hr:EvK d sc cs x v r st₁ v₂ st₂) (k:CmpOK op v₁ v₂ b) (hm:behindInMarks op r=false:=by rfl) :
    TstK d sc cs x v (.Compare l [op] [r] p) st b st₂:=.mk fun c imm s C oC m V O R hc hkk I hC hN hmx hV=>by
  refine wpAny_isTrue_Compare1 ?_ hm
  refine hl.use O R hc hkk .refl I hC hN hmx hV fun V₁ s₁ imm₁ x₁ I₁ q₁ hV₁=>hr.use O R hc hkk .refl I₁ hC hN hmx hV₁ fun V₂ s₂ imm₂ x₂ I₂ q₂ hV₂=>?_
  exact wpAny_mono (k.run c imm₂ _ V₁ V₂ s₂ O I₂ (q₁.mono x₂.mem) q₂ (fun V s'=>wpAny c.M c.A (truthy V) (QB c imm st₂ b) NoE s') fun n=>wpAny_truthy_bool ⟨rfl,imm₂,x₁.trans x₂,I₂.tok n⟩) (fun _ _ h=>h) fun _ _ f=>f
theorem EvK.ifT {t b o:Expr} {p:Pos} {w:SV} (ht:TstK d sc cs x v t st true st₁) (hb:EvK d sc cs x v b st₁ w st'):EvK d sc cs x v (.IfExp t b o p) st w st':=.mk fun c imm s C oC m V O R hc hkk I hC hN hm hV =>
  wpAny_IfExp (wpAny_mono (ht.run c imm s C oC m V O R hc hkk I hC hN hm hV) (fun b' s' q=>by
    obtain ⟨rfl,imm',x',I'⟩:=q
    rw [if_pos rfl]
    exact wpAny_mono (hb.run c imm' s' C oC m V O R hc hkk I' hC hN hm (hV.mono x'.mem)) (fun _ _=>cJ x') fun _ _ f=>f.elim) fun _ _ f=>f.elim)
theorem EvK.ifF {t b o:Expr} {p:Pos} {w:SV} (ht:TstK d sc cs x v t st false st₁) (hb:EvK d sc cs x v o st₁ w st'):EvK d sc cs x v (.IfExp t b o p) st w st':=.mk fun c imm s C oC m V O R hc hkk I hC hN hm hV =>
  wpAny_IfExp (wpAny_mono (ht.run c imm s C oC m V O R hc hkk I hC hN hm hV) (fun b' s' q=>by
    obtain ⟨rfl,imm',x',I'⟩:=q
    rw [if_neg (by decide)]
    exact wpAny_mono (hb.run c imm' s' C oC m V O R hc hkk I' hC hN hm (hV.mono x'.mem)) (fun _ _=>cJ x') fun _ _ f=>f.elim) fun _ _ f=>f.elim)
end
inductive TsK (d:Nat) (sc cs:Scope) (x:Str) (v:SV):List Expr→Sx→Bool→Prop
  | nil {st}:TsK d sc cs x v [] st true
  | one {t st b}:TstK d sc cs x v t st b st→TsK d sc cs x v [t] st b
inductive CRun (d:Nat) (sc cs:Scope) (x:Str) (ifs:List Expr) (elt:Expr) (st:Sx):List SV→List T→Prop
  | done:CRun d sc cs x ifs elt st [] []
  | yes {v vs y ys}:TsK d sc cs x v ifs st true→EvK d sc cs x v elt st (.str y) st→CRun d sc cs x ifs elt st vs ys→CRun d sc cs x ifs elt st (v::vs) (y::ys)
  | no {v vs ys}:TsK d sc cs x v ifs st false→CRun d sc cs x ifs elt st vs ys→CRun d sc cs x ifs elt st (v::vs) ys
section
variable {c:Cx} {imm:List (Addr×Obj)} {st:Sx} {s:Shared}
theorem Inv.turn1 {r r':List (Addr×Obj)} {a:Addr} {o o':Obj} {h':Heap} (hr:c.rest=r) (I:Inv c imm st s) (h1:(a,o)∈r) (h2:∀ p∈r',(p∈r∧p.1≠a)∨p=(a,o')) (h3:r'.map (·.1)=r.map (·.1)) (hk:∀ b q,b≠a→s.heap.get? b=some q→h'.get? b=some q) (ho:h'.get? a=some o') (n:Nat) :
    Inv { c with rest:=r' } imm st { s with heap:=h',toks:=n }:=by
  subst hr
  obtain ⟨g,m,mt,T,F,N,B,D,MO,ND,LO⟩:=I.ex
  have ha:=N (a,o) (List.mem_append_right _ (List.mem_append_right _ h1))
  have hne:∀ p∈mt++imm,p.1≠a:=fun p hp q=>by
    rw [← List.append_assoc,List.map_append,List.nodup_append] at ND
    exact ND.2.2 p.1 (List.mem_map_of_mem hp) a (List.mem_map_of_mem (f:=(·.1)) h1) q
  have F':Fr g c.L h' m:=by
    obtain ⟨oL,es,ep,e1,e2⟩:=F.ns
    refine ⟨⟨oL,es,ep,hk _ _ (Ne.symm ha.2.1) e1,e2⟩,fun b q e=>hk b q (fun h=>?_) (F.keep b q e),F.above⟩
    rw [h,ha.2.2] at e
    cases e
  refine ⟨I.sh,g,m,mt,T,F',fun p hp=>?_,B,D,MO,?_,LO⟩
  · rw [← List.append_assoc] at hp
    rcases List.mem_append.mp hp with hp | hp
    · have hp':=N p (by rw [← List.append_assoc]; exact List.mem_append_left _ hp)
      exact ⟨hk p.1 p.2 (hne p hp) hp'.1,hp'.2⟩
    · rcases h2 p hp with ⟨h4,h5⟩ | h4
      · have hp':=N p (List.mem_append_right _ (List.mem_append_right _ h4))
        exact ⟨hk p.1 p.2 h5 hp'.1,hp'.2⟩
      · subst h4
        exact ⟨ho,ha.2⟩
  · have e:(mt++(imm++r')).map (·.1)=(mt++(imm++c.rest)).map (·.1):=by rw [List.map_append,List.map_append,h3,← List.map_append,← List.map_append]
    exact e▸ND
theorem Inv.gone {r:List (Addr×Obj)} {a:Addr} {o:Obj} {h':Heap} (hr:c.rest=(a,o)::r) (I:Inv c imm st s) (hk:∀ b q,b≠a→s.heap.get? b=some q→h'.get? b=some q) (n:Nat) :
    Inv { c with rest:=r } imm st { s with heap:=h',toks:=n }:=by
  obtain ⟨g,m,mt,T,F,N,B,D,MO,ND,LO⟩:=I.ex
  rw [hr] at N ND
  have ha:=N (a,o) (List.mem_append_right _ (List.mem_append_right _ List.mem_cons_self))
  have e:List.Perm (mt++(imm++((a,o)::r))) ((a,o)::(mt++(imm++r))):=by
    rw [← List.append_assoc,← List.append_assoc]
    exact List.perm_middle
  have ND':=(e.map (·.1)).nodup_iff.mp ND
  rw [List.map_cons,List.nodup_cons] at ND'
  have F':Fr g c.L h' m:=by
    obtain ⟨oL,es,ep,e1,e2⟩:=F.ns
    refine ⟨⟨oL,es,ep,hk _ _ (Ne.symm ha.2.1) e1,e2⟩,fun b q e=>hk b q (fun h=>?_) (F.keep b q e),F.above⟩
    rw [h,ha.2.2] at e
    cases e
  refine ⟨I.sh,g,m,mt,T,F',fun p hp=>?_,B,D,MO,ND'.2,LO⟩
  have hp':=N p (e.mem_iff.mpr (List.mem_cons_of_mem _ hp))
  have hpm:p.1∈(mt++(imm++r)).map (·.1):=List.mem_map.mpr ⟨p,hp,rfl⟩
  exact ⟨hk p.1 p.2 (fun q=>ND'.1 (q▸hpm)) hp'.1,hp'.2⟩
theorem Inv.restND (I:Inv c imm st s):(c.rest.map (·.1)).Nodup:=by
  obtain ⟨g,m,mt,T,F,N,B,D,MO,ND,LO⟩:=I.ex
  rw [List.map_append,List.map_append,List.nodup_append] at ND
  exact (List.nodup_append.mp ND.2.1).2.1
end
noncomputable def dG (c:Cx) (I C D:Addr) (oI oC oD:Obj):Cx:={ c with rest:=(I,oI)::(C,oC)::(D,oD)::c.rest }
noncomputable def cRest2 (c:Cx) (C D:Addr) (oC oD:Obj):Cx:={ c with rest:=(C,oC)::(D,oD)::c.rest }
theorem comp_loop {d:Nat} {sc cs:Scope} {x:Str} {px:Pos} {iter elt:Expr} {ifs:List Expr} {pos:Pos} {c:Cx} {I C D:Addr} {fp:List Addr} {n:Nat} {P:Nat→Value→Prop} {St:Nat→Heap→Prop} {vs:List SV} {ys:List T} {st:Sx}
    (O:CxOK c) (R:Room c d) (hs:c.scope=sc) (hk:cs.kind=.function) (W:Walks pw c.w c.A I fp [I] n P St) (hI:∀ i h,St i h→∃ o,h.get? I=some o) (hn:vs.length=n) (hsz:n≤100000)
    (hP:∀ i v V,vs[i]?=some v→P i V→∀ imm,VR c.P imm v V) (hx:cs.names.lookup x=some .local) (hIC:I≠C) (hID:I≠D) (hCD:C≠D)
    {imm:List (Addr×Obj)} (hfp:∀ b∈fp,b≠I→∃ q,(b,q)∈imm∨c.base.get? b=some q∨(b,q)∈c.rest)
    (run:CRun d sc cs x ifs elt st vs ys) {imm₀:List (Addr×Obj)} {s:Shared} {oI oC oD:Obj} {m:Str→Option Value} (hNC:NsO oC m) (hoD:oD.cls=.type "list" ∧ oD.dict=none∧∃ k,oD.data=.seq #[] k)
    (x₀:Ext imm₀ imm) (II:Inv (dG c I C D oI oC oD) imm st s) (h0:St 0 s.heap) :
    codeAny c.M c.A (.compLoop (.ListComp elt [⟨.Name x px,iter,ifs,0⟩] cs pos) 0 (.ref I) (.ref D) (compEnv cs C c.env)) (fun r s'=>match r with
      | .ok _=>∃ imm' oC' oD' m' zs k,Ext imm₀ imm'∧Inv (cRest2 c C D oC' oD') imm' st s'∧NsO oC' m'∧oD'.cls=.type "list" ∧ oD'.data=.seq zs k∧All2 StrV ys zs.toList
      | .error _=>False) s:=by
  have nd:∀ {oI oC oD:Obj} {im:List (Addr×Obj)} {t:Shared},Inv (dG c I C D oI oC oD) im st t→∀ p∈c.rest,p.1≠I∧p.1≠C∧p.1≠D:=fun {oI oC oD im t} J p hp=>by
    have h1:=J.restND
    simp only [dG,List.map_cons,List.nodup_cons,List.mem_cons,not_or] at h1
    have hpm:p.1∈c.rest.map (·.1):=List.mem_map.mpr ⟨p,hp,rfl⟩
    exact ⟨fun q=>h1.1.2.2 (q▸hpm),fun q=>h1.2.1.2 (q▸hpm),fun q=>h1.2.2.1 (q▸hpm)⟩
  have O':∀ oI oC oD,CxOK (dG c I C D oI oC oD):=fun _ _ _=>⟨O.XB,O.TB,O.kind,O.hd⟩
  -- the places that the iterator reads lie still
  have kfp:∀ {oI₁ oC₁ oD₁ oC₂ oD₂:Obj} {im₁ im₂:List (Addr×Obj)} {t₁ t₂:Shared},Ext imm im₁→Ext imm im₂→Inv (dG c I C D oI₁ oC₁ oD₁) im₁ st t₁→Inv (dG c I C D oI₁ oC₂ oD₂) im₂ st t₂→∀ b∈fp,∀ q,t₁.heap.get? b=some q→t₂.heap.get? b=some q:=fun {oI₁ oC₁ oD₁ oC₂ oD₂ im₁ im₂ t₁ t₂} x₁ x₂ J₁ J₂ b hb q e=>by
    by_cases h:b=I
    · subst h
      have e1:=J₁.restAt (p:=(b,oI₁)) List.mem_cons_self
      have e2:=J₂.restAt (p:=(b,oI₁)) List.mem_cons_self
      rw [e] at e1
      cases e1
      exact e2
    · obtain ⟨q',h' | h' | h'⟩:=hfp b hb h
      · have e1:=J₁.immAt (x₁.mem _ h')
        have e2:=J₂.immAt (x₂.mem _ h')
        rw [e] at e1
        cases e1
        exact e2
      · have e1:=Inv.stays (s:=t₁) J₁ b q' h'
        have e2:=Inv.stays (s:=t₂) J₂ b q' h'
        rw [e] at e1
        cases e1
        exact e2
      · have e1:=J₁.restAt (p:=(b,q')) (List.mem_cons_of_mem _ (List.mem_cons_of_mem _ (List.mem_cons_of_mem _ h')))
        have e2:=J₂.restAt (p:=(b,q')) (List.mem_cons_of_mem _ (List.mem_cons_of_mem _ (List.mem_cons_of_mem _ h')))
        rw [e] at e1
        cases e1
        exact e2
  refine codeAny_compLoop_tests (prog:=pw) (w:=c.w)
    (fun k s'=>∃ i imm₁ oI₁ oC₁ oD₁ m₁ zs j ys₀ ys₁,k=n+1 - i∧i≤n∧CRun d sc cs x ifs elt st (vs.drop i) ys₁∧ys=ys₀++ys₁∧ys₀.length≤i∧Ext imm imm₁∧Inv (dG c I C D oI₁ oC₁ oD₁) imm₁ st s'∧NsO oC₁ m₁∧oD₁.cls=.type "list" ∧ oD₁.dict=none∧oD₁.data=.seq zs j∧All2 StrV ys₀ zs.toList∧St i s'.heap) ?_ (n+1)
    ⟨0,imm,oI,oC,oD,m,#[],hoD.2.2.choose,[],ys,rfl,Nat.zero_le _,run,rfl,Nat.zero_le _,.refl,II,hNC,hoD.1,hoD.2.1,hoD.2.2.choose_spec,.nil,h0⟩ Zn
  rintro k s₁ ⟨i,imm₁,oI₁,oC₁,oD₁,m₁,zs,j,ys₀,ys₁,rfl,hi,run₁,hys,hyl,x₁,I₁,hN₁,hD1,hD2,hD3,hA,hst⟩
  cases hvs:vs.drop i with
  | nil =>
    rw [hvs] at run₁
    cases run₁
    have hin:i=n:=by
      have:=congrArg List.length hvs
      rw [List.length_drop] at this
      simp at this
      lia
    subst hin
    refine W.done _ _ _ hst fun h' tk hkp=>?_
    rw [List.append_nil] at hys
    subst hys
    exact ⟨imm₁,oC₁,oD₁,m₁,zs,j,x₀.trans x₁,I₁.gone (c:=dG c I C D oI₁ oC₁ oD₁) (r:=(C,oC₁)::(D,oD₁)::c.rest) rfl (fun b q hb=>hkp b q (by simpa using hb)) tk,hN₁,hD1,hD3,hA⟩
  | cons v ws =>
    rw [hvs] at run₁
    have hlt:i < n:=by
      have:=congrArg List.length hvs
      rw [List.length_drop,List.length_cons] at this
      lia
    have hv:vs[i]?=some v:=by
      have:(vs.drop i)[0]?=some v:=by rw [hvs]; rfl
      rwa [List.getElem?_drop,Nat.add_zero] at this
    have hws:vs.drop (i+1)=ws:=by rw [← List.drop_drop (i:=1),hvs]; rfl
    refine W.item i _ _ _ hlt hst fun V h₂ tk₂ hPV hst₂ hk₂=>?_
    obtain ⟨oI₂,hoI₂⟩:=hI _ _ hst₂
    have nd₁:=nd I₁
    have I₂:Inv (dG c I C D oI₂ oC₁ oD₁) imm₁ st { s₁ with heap:=h₂,toks:=tk₂ } :=
      I₁.turn1 (c:=dG c I C D oI₁ oC₁ oD₁) (r':=(I,oI₂)::(C,oC₁)::(D,oD₁)::c.rest) (a:=I) (o:=oI₁) (o':=oI₂) rfl List.mem_cons_self (fun p hp=>by
        rcases List.mem_cons.mp hp with rfl | hp
        · exact .inr rfl
        · refine .inl ⟨List.mem_cons_of_mem _ hp,?_⟩
          rcases List.mem_cons.mp hp with rfl | hp
          · exact Ne.symm hIC
          · rcases List.mem_cons.mp hp with rfl | hp
            · exact Ne.symm hID
            · exact (nd₁ p hp).1) rfl (fun b q hb=>hk₂ b q (by simpa using hb)) hoI₂ tk₂
    have hC₂:=I₂.restAt (p:=(C,oC₁)) (List.mem_cons_of_mem _ List.mem_cons_self)
    refine wpAny_assign_Name (wpAny_storeName_local (env:=compEnv cs C c.env) hx (hN₁.ns hC₂) (fun h₃ hn₃ hs₃=>?_) (by show (cs.kind == .class || (cs.kind == .module && _))=false; rw [hk]; rfl))
    obtain ⟨oC₃,hoC₃,hN₃⟩:=nsO_of hn₃
    have I₃:∀ n',Inv (dG c I C D oI₂ oC₃ oD₁) imm₁ st { s₁ with heap:=h₃,toks:=n' }:=fun n' =>
      I₂.turn1 (c:=dG c I C D oI₂ oC₁ oD₁) (r':=(I,oI₂)::(C,oC₃)::(D,oD₁)::c.rest) (a:=C) (o:=oC₁) (o':=oC₃) rfl (List.mem_cons_of_mem _ List.mem_cons_self) (fun p hp=>by
        rcases List.mem_cons.mp hp with rfl | hp
        · exact .inl ⟨List.mem_cons_self,hIC⟩
        · rcases List.mem_cons.mp hp with rfl | hp
          · exact .inr rfl
          · refine .inl ⟨List.mem_cons_of_mem _ (List.mem_cons_of_mem _ hp),?_⟩
            rcases List.mem_cons.mp hp with rfl | hp
            · exact Ne.symm hCD
            · exact (nd₁ p hp).2.1) rfl (fun b q hb e=>(hs₃.2 b hb).trans e) hoC₃ n'
    have hV:VR c.P imm₁ v V:=hP i v V hv hPV imm₁
    -- the tests
    have key:∀ {b:Bool} {s₃:Shared},TsK d sc cs x v ifs st b→Inv (dG c I C D oI₂ oC₃ oD₁) imm₁ st s₃→∀ {Q:Bool→Shared→Prop} {E:Value→Shared→Prop},(∀ s' imm',Ext imm₁ imm'→Inv (dG c I C D oI₂ oC₃ oD₁) imm' st s'→Q b s') →
        wpAny c.M c.A (forIn ifs true fun t r=>if r=true then do let ok ← isTrue t (compEnv cs C c.env) (eval t (compEnv cs C c.env)); pure (ForInStep.yield ok) else pure (ForInStep.yield r)) Q E s₃:=fun {b s₃} ht J {Q E} kk=>by
      cases ht with
      | nil=>exact wpAny_tests_nil (kk _ _ .refl J)
      | one h =>
        refine wpAny_tests_one (wpAny_mono (h.run (dG c I C D oI₂ oC₃ oD₁) imm₁ s₃ C oC₃ _ V (O' _ _ _) R hs hk J (List.mem_cons_of_mem _ List.mem_cons_self) hN₃ (by simp) hV) (fun b' s' q=>?_) fun _ _ f=>f.elim)
        obtain ⟨rfl,imm',x',I'⟩:=q
        exact kk _ _ x' I'
    have go:∀ {s₃:Shared} {imm₃:List (Addr×Obj)} {oD₃:Obj} {zs₃:Array Value} {j₃:Nat} {ys₃ ys₄:List T},Ext imm₁ imm₃→Inv (dG c I C D oI₂ oC₃ oD₃) imm₃ st s₃→CRun d sc cs x ifs elt st ws ys₄→ys=ys₃++ys₄→ys₃.length≤i+1→oD₃.cls=.type "list" → oD₃.dict=none→oD₃.data=.seq zs₃ j₃→All2 StrV ys₃ zs₃.toList →
        ∃ k,k < n+1 - i∧∃ i imm₁ oI₁ oC₁ oD₁ m₁ zs j ys₀ ys₁,k=n+1 - i∧i≤n∧CRun d sc cs x ifs elt st (vs.drop i) ys₁∧ys=ys₀++ys₁∧ys₀.length≤i∧Ext imm imm₁∧Inv (dG c I C D oI₁ oC₁ oD₁) imm₁ st s₃∧NsO oC₁ m₁∧oD₁.cls=.type "list" ∧ oD₁.dict=none∧oD₁.data=.seq zs j∧All2 StrV ys₀ zs.toList∧St i s₃.heap:=fun {s₃ imm₃ oD₃ zs₃ j₃ ys₃ ys₄} x₃ J r e l a1 a2 a3 a4 =>
      ⟨n+1 - (i+1),by lia,i+1,imm₃,oI₂,oC₃,oD₃,_,zs₃,j₃,ys₃,ys₄,rfl,hlt,hws▸r,e,l,x₁.trans x₃,J,hN₃,a1,a2,a3,a4,W.frame _ _ _ hst₂ fun b hb q e=>kfp x₁ (x₁.trans x₃) I₂ J b hb q e⟩
    cases run₁ with
    | no ht hr =>
      refine key ht (I₃ _) fun s' imm' x' I'=>?_
      rw [if_neg (by decide)]
      exact go x' I' hr hys (by lia) hD1 hD2 hD3 hA
    | @yes _ _ y ys₂ ht he hr =>
      refine key ht (I₃ _) fun s' imm' x' I'=>?_
      rw [if_pos rfl]
      refine wpAny_mono (he.run (dG c I C D oI₂ oC₃ oD₁) imm' s' C oC₃ _ V (O' _ _ _) R hs hk I' (List.mem_cons_of_mem _ List.mem_cons_self) hN₃ (by simp) (hV.mono x'.mem)) (fun Y s₄ q=>?_) fun _ _ f=>f.elim
      obtain ⟨imm₄,x₄,I₄,hY⟩:=q
      have hD₄:=I₄.restAt (p:=(D,oD₁)) (List.mem_cons_of_mem _ (List.mem_cons_of_mem _ List.mem_cons_self))
      have hzs:zs.size=ys₀.length:=by rw [hA.length]; simp
      refine list_append_plainL (hsz:=by rw [hzs]; exact Nat.le_trans hyl (Nat.le_trans hi (Nat.le_trans hsz (by decide)))) ⟨oD₁,j,hD₄,hD1,hD2,hD3⟩ fun h₅ hl₅ hs₅=>?_
      obtain ⟨oD₅,j₅,e5,d1,d2,d3⟩:=hl₅
      have nd₄:=nd I₄
      have I₅:Inv (dG c I C D oI₂ oC₃ oD₅) imm₄ st { s₄ with heap:=h₅ } :=
        I₄.turn1 (c:=dG c I C D oI₂ oC₃ oD₁) (r':=(I,oI₂)::(C,oC₃)::(D,oD₅)::c.rest) (a:=D) (o:=oD₁) (o':=oD₅) rfl (List.mem_cons_of_mem _ (List.mem_cons_of_mem _ List.mem_cons_self)) (fun p hp=>by
          rcases List.mem_cons.mp hp with rfl | hp
          · exact .inl ⟨List.mem_cons_self,hID⟩
          · rcases List.mem_cons.mp hp with rfl | hp
            · exact .inl ⟨List.mem_cons_of_mem _ List.mem_cons_self,hCD⟩
            · rcases List.mem_cons.mp hp with rfl | hp
              · exact .inr rfl
              · exact .inl ⟨List.mem_cons_of_mem _ (List.mem_cons_of_mem _ (List.mem_cons_of_mem _ hp)),(nd₄ p hp).2.2⟩) rfl (fun b q hb e=>(hs₅.2 b hb).trans e) e5 s₄.toks
      refine go (x'.trans x₄) I₅ hr (ys₃:=ys₀++[y]) (by rw [hys]; simp) (by rw [List.length_append]; simp; lia) d1 d2 d3 ?_
      rw [Array.toList_push]
      exact hA.app (.cons hY .nil)
section
variable {c:Cx} {imm:List (Addr×Obj)} {st:Sx} {s:Shared}
theorem Inv.perm {r:List (Addr×Obj)} (h:c.rest.Perm r) (I:Inv c imm st s):Inv { c with rest:=r } imm st s:=by
  obtain ⟨g,m,mt,T,F,N,B,D,MO,ND,LO⟩:=I.ex
  have e:(mt++(imm++c.rest)).Perm (mt++(imm++r)):=(h.append_left imm).append_left mt
  exact ⟨I.sh,g,m,mt,T,F,fun p hp=>N p (e.mem_iff.mpr hp),B,D,MO,(e.map _).nodup_iff.mp ND,LO⟩
theorem Inv.toImm {r:List (Addr×Obj)} {p:Addr×Obj} (h:c.rest=p::r) (I:Inv c imm st s):Inv { c with rest:=r } (p::imm) st s:=by
  obtain ⟨g,m,mt,T,F,N,B,D,MO,ND,LO⟩:=I.ex
  rw [h] at N ND
  have e:(mt++(imm++(p::r))).Perm (mt++((p::imm)++r)):=List.perm_middle.append_left mt
  exact ⟨I.sh,g,m,mt,T,F,fun q hq=>N q (e.mem_iff.mpr hq),B,D,MO,(e.map _).nodup_iff.mp ND,fun x v q=>by
    obtain ⟨V,h1,h2⟩:=LO x v q
    exact ⟨V,h1,h2.mono fun p hp=>List.mem_cons_of_mem _ hp⟩⟩
theorem Inv.freeze {loc:Loc} {a:Addr} {l:List T} (I:Inv c imm ⟨loc,.lst a l⟩ s):∃ o vs n,o.cls=.type "list" ∧ o.dict=none∧o.data=.seq vs n∧All2 StrV l vs.toList∧Inv { c with rest:=(a,o)::c.rest } imm ⟨loc,.none⟩ s:=by
  obtain ⟨g,m,mt,T,F,N,B,D,MO,ND,LO⟩:=I.ex
  obtain ⟨o,vs,n,rfl,h1,h2,h3,h4⟩:=MO
  have e:((a,o)::(imm++c.rest)).Perm (imm++((a,o)::c.rest)):=List.perm_middle.symm
  exact ⟨o,vs,n,h1,h2,h3,h4,I.sh,g,m,[],T,F,fun q hq=>N q (e.mem_iff.mpr hq),B,D,rfl,(e.map _).nodup_iff.mp ND,LO⟩
theorem Inv.thaw {loc:Loc} {a:Addr} {l:List T} {o:Obj} {vs:Array Value} {n:Nat} (h1:o.cls=.type "list") (h2:o.dict=none) (h3:o.data=.seq vs n) (h4:All2 StrV l vs.toList) (I:Inv { c with rest:=(a,o)::c.rest } imm ⟨loc,.none⟩ s):Inv c imm ⟨loc,.lst a l⟩ s:=by
  obtain ⟨g,m,mt,T,F,N,B,D,MO,ND,LO⟩:=I.ex
  cases MO
  have e:((a,o)::(imm++c.rest)).Perm (imm++((a,o)::c.rest)):=List.perm_middle.symm
  exact ⟨I.sh,g,m,[(a,o)],T,F,fun q hq=>N q (e.mem_iff.mp hq),B,D,⟨o,vs,n,rfl,h1,h2,h3,h4⟩,(e.map _).nodup_iff.mpr ND,LO⟩
noncomputable def nW (c:Cx) (imm:List (Addr×Obj)) (V:Value) (vs:List SV) (s:Shared):Prop:=∀ (Q:Value→Shared→Prop) (E:Value→Shared→Prop),
  (∀ (oI:Obj) (fp:List Addr) (n:Nat) (P:Nat→Value→Prop) (St:Nat→Heap→Prop),oI.isFreed=false→Walks pw c.w c.A s.heap.objs.size fp [s.heap.objs.size] n P St→(∀ i h,St i h→∃ o,h.get? s.heap.objs.size=some o)→vs.length=n →
    (∀ i v V,vs[i]?=some v→P i V→∀ imm,VR c.P imm v V)→(∀ b∈fp,b≠s.heap.objs.size→∃ q,(b,q)∈imm∨c.base.get? b=some q∨(b,q)∈c.rest)→St 0 (s.heap.push oI)→Q (.ref s.heap.objs.size) { s with heap:=s.heap.push oI }) →
  wpAny (model pw c.w) c.A (pyIter V) Q E s
theorem nH {a:Addr} {o:Obj} {vs:Array Value} {n:Nat} {sv:List SV} (O:CxOK c) (I:Inv c imm st s) (hin:(a,o)∈imm∨c.base.get? a=some o∨(a,o)∈c.rest) (h1:o.cls=.type "list") (h2:o.data=.seq vs n)
    (hl:sv.length=vs.size) (hv:∀ (i:Nat) (v:SV) (V:Value),sv[i]?=some v→vs[i]?=some V→∀ imm,VR c.P imm v V):nW c imm (.ref a) sv s:=fun Q E k=>by
  have ho:s.heap.get? a=some o:=by
    rcases hin with h | h | h
    · exact I.immAt h
    · exact Inv.stays (s:=s) I a o h
    · exact I.restAt h
  have hL:s.heap.IsList a vs:=⟨o,ho,h1,n,h2⟩
  have hne:a≠s.heap.objs.size:=Nat.ne_of_lt (Heap.lt_size ho)
  refine wpAny_pyIter_list hL (k _ [s.heap.objs.size,a] vs.size _ _ rfl (Walks.list O.handled _ a hne vs) (fun i h q=>let ⟨⟨o,ho,_⟩,_⟩:=q; ⟨o,ho⟩) hl (fun i v V e q imm=>hv i v V e q imm) (fun b hb hne'=>?_) ⟨⟨_,Heap.get?_push_size _ rfl,rfl,rfl⟩,hL.push _⟩)
  simp at hb
  rcases hb with rfl | rfl
  · exact (hne' rfl).elim
  · exact ⟨o,hin⟩
theorem iter_str {y:T} {t:Tok} (O:CxOK c) (I:Inv c imm st s):nW c imm (.str (S y) t) (y.map fun ch=>.str [ch]) s:=fun Q E k=>by
  have hP:∀ (i:Nat) (v:SV) (V:Value),(y.map fun ch=>SV.str [ch])[i]?=some v→SignAt (S y) i V→∀ imm,VR c.P imm v V:=fun i v V e q imm=>by
    obtain ⟨ch,u,h1,rfl⟩:=q
    rw [List.getElem?_map] at e
    obtain ⟨ch',h2,rfl⟩:=Option.map_eq_some_iff.mp e
    have:(S y).cps[i]?=some ch':=by unfold S; simpa using h2
    rw [this] at h1
    cases h1
    exact .str_ _ (by show 1≤65536; decide)
  have hl:(y.map fun ch=>SV.str [ch]).length=(S y).cps.size:=by simp [S]
  cases ha:(S y).cps.all (· < 128)
  · exact wpAny_pyIter_wide ha (k _ [s.heap.objs.size] _ _ _ rfl (Walks.strWide O.handled _ (S y) t) (fun i h q=>let ⟨o,ho,_⟩:=q; ⟨o,ho⟩) hl hP (fun b hb hne=>(hne (by simpa using hb)).elim) ⟨_,Heap.get?_push_size _ rfl,rfl,rfl⟩)
  · exact wpAny_pyIter_ascii ha (k _ [s.heap.objs.size] _ _ _ rfl (Walks.strAscii O.handled _ (S y) t) (fun i h q=>let ⟨o,ho,_⟩:=q; ⟨o,ho⟩) hl hP (fun b hb hne=>(hne (by simpa using hb)).elim) ⟨_,Heap.get?_push_size _ rfl,rfl,rfl⟩)
end
noncomputable def noFree (cs:Scope):Bool:=cs.names.all fun x=>!(x.2 == .free)
noncomputable def lJ (cs:Scope):Bool:=cs.names.all fun x=>!(x.2 == .local) || cs.names.lookup x.1 == some .local
theorem comp_ev {d:Nat} {sc cs:Scope} {x:Str} {px:Pos} {iter elt:Expr} {ifs:List Expr} {pos:Pos} {c:Cx} {imm imm₀:List (Addr×Obj)} {st:Sx} {s:Shared} {V:Value} {vs:List SV} {ys:List T} {E:Value→Shared→Prop} {Q:Value→Shared→Prop}
    (O:CxOK c) (R:Room c d) (hs:c.scope=sc) (hk:cs.kind=.function) (hfree:noFree cs=true) (hcell:fZ cs=true) (hnames:lJ cs=true) (hx:cs.names.lookup x=some .local) (hsz:vs.length≤100000)
    (run:CRun d sc cs x ifs elt st vs ys) (x₀:Ext imm₀ imm) (I:Inv c imm st s) (hit:nW c imm V vs s) (hQ:∀ W s' imm',Ext imm₀ imm'→Inv c imm' st s'→VR c.P imm' (.tl ys) W→Q W s') :
    wpAny c.M c.A (pyIter V) (fun it s₂=>wpAny c.M c.A (newList []) (fun acc s₃ =>
      wpAny c.M c.A (newFunctionEnv cs c.env.globals [] [] c.env.qual none .none (some c.env)) (fun cenv s₄ =>
        codeAny c.M c.A (.compStart (.ListComp elt [⟨.Name x px,iter,ifs,0⟩] cs pos) 0 it acc { cenv with scope:=cs }) (fun r s'=>∃ m,s'.heap.Ns cenv.locals m∧∀ h',Heap.SameBut cenv.locals s'.heap h' →
          match r with | .ok _=>Q acc { s' with heap:=h' } | .error x=>wpAny c.M c.A (passOn "comprehension.variables-let-go" x { cenv with scope:=cs }) Q E { s' with heap:=h' }) s₄) E s₃) E s₂) E s:=by
  refine hit _ _ fun oI fp n P St hfr W hI hn hP hfp h0=>?_
  have I1:=I.own oI hfr
  refine wpAny_newObj_type ?_ (by show (0:Nat)≤sizeLine; exact Nat.zero_le _)
  have I2:=I1.own { cls:=.type "list",data:=.seq ([]:List Value).toArray } rfl
  refine wpAny_newFunctionEnv (cell_of hcell) (by intro y hy; simp at hy) (fun h₁ hns₁ hsb₁=>?_) hk
  have I3:=I2.own { cls:=.type "dict",data:=.dict #[] } rfl
  obtain ⟨oC,hoC,hN⟩:=nsO_of hns₁
  have e1:(s.heap.push oI).objs.size=s.heap.objs.size+1:=Heap.size_push ..
  have e2:((s.heap.push oI).push { cls:=.type "list",data:=.seq ([]:List Value).toArray }).objs.size=s.heap.objs.size+2:=by rw [Heap.size_push,e1]
  have I4:Inv (dG c s.heap.objs.size ((s.heap.push oI).push { cls:=.type "list",data:=.seq ([]:List Value).toArray }).objs.size (s.heap.push oI).objs.size oI oC { cls:=.type "list",data:=.seq ([]:List Value).toArray }) imm st { s with heap:=h₁ }:=by
    have I3':=I3.perm (c:=Cx.plus (Cx.plus (Cx.plus c _) _) _) (r:=(s.heap.objs.size,oI)::(((s.heap.push oI).push { cls:=.type "list",data:=.seq ([]:List Value).toArray }).objs.size,{ cls:=.type "dict",data:=.dict #[] })::((s.heap.push oI).objs.size,{ cls:=.type "list",data:=.seq ([]:List Value).toArray })::c.rest) (by
      show List.Perm (_::_::_::c.rest) _
      exact (List.perm_append_comm (l₁:=[_,_]) (l₂:=[_])).append_right c.rest)
    refine I3'.turn1 (r':=(s.heap.objs.size,oI)::(((s.heap.push oI).push { cls:=.type "list",data:=.seq ([]:List Value).toArray }).objs.size,oC)::((s.heap.push oI).objs.size,{ cls:=.type "list",data:=.seq ([]:List Value).toArray })::c.rest) rfl (List.mem_cons_of_mem _ List.mem_cons_self) (fun p hp=>?_) rfl (fun b q hb e=>(hsb₁.2 b hb).trans e) hoC s.toks
    have nd:=I3'.restND
    simp only [List.map_cons,List.nodup_cons,List.mem_cons,not_or] at nd
    rcases List.mem_cons.mp hp with rfl | hp
    · exact .inl ⟨List.mem_cons_self,nd.1.1⟩
    · rcases List.mem_cons.mp hp with rfl | hp
      · exact .inr rfl
      · refine .inl ⟨List.mem_cons_of_mem _ (List.mem_cons_of_mem _ hp),?_⟩
        rcases List.mem_cons.mp hp with rfl | hp
        · exact fun q=>nd.2.1.1 q.symm
        · exact fun q=>nd.2.1.2 (q▸List.mem_map.mpr ⟨p,hp,rfl⟩)
  have hst:St 0 h₁:=W.frame 0 _ _ h0 fun b hb q e=>by
    have hlt:b < s.heap.objs.size+1:=by rw [← e1]; exact Heap.lt_size e
    refine (hsb₁.2 b ?_).trans (Heap.get?_push_of_some _ (Heap.get?_push_of_some _ e))
    show b≠((s.heap.push oI).push _).objs.size
    rw [e2]
    exact Nat.ne_of_lt (Nat.lt_trans hlt (Nat.lt_succ_self _))
  have loop:∀ s₂:Shared,s₂={ s with heap:=h₁,toks:=s.toks+([]:List (Str×Value)).length } →
      codeAny c.M c.A (.compLoop (.ListComp elt [⟨.Name x px,iter,ifs,0⟩] cs pos) 0 (.ref s.heap.objs.size) (.ref (s.heap.push oI).objs.size) (compEnv cs ((s.heap.push oI).push { cls:=.type "list",data:=.seq ([]:List Value).toArray }).objs.size c.env))
        (fun r s'=>∃ m,s'.heap.Ns ((s.heap.push oI).push { cls:=.type "list",data:=.seq ([]:List Value).toArray }).objs.size m∧∀ h',Heap.SameBut ((s.heap.push oI).push { cls:=.type "list",data:=.seq ([]:List Value).toArray }).objs.size s'.heap h' →
          match r with | .ok _=>Q (.ref (s.heap.push oI).objs.size) { s' with heap:=h' } | .error x=>wpAny c.M c.A (passOn "comprehension.variables-let-go" x (compEnv cs ((s.heap.push oI).push { cls:=.type "list",data:=.seq ([]:List Value).toArray }).objs.size c.env)) Q E { s' with heap:=h' }) s₂:=by
    rintro s₂ rfl
    refine codeAny_mono (comp_loop O R hs hk W hI hn (by lia) hP hx (by rw [e2]; exact Nat.ne_of_lt (Nat.lt_add_of_pos_right (by decide))) (by rw [e1]; exact Nat.ne_of_lt (Nat.lt_succ_self _)) (by rw [e1,e2]; exact Nat.ne_of_gt (Nat.lt_succ_self _)) hfp run hN ⟨rfl,rfl,0,rfl⟩ x₀ I4 hst) fun r s' q=>?_
    cases r with
    | error e=>exact q.elim
    | ok f =>
      obtain ⟨imm',oC',oD',m',zs,k,x',J,hN',d1,d2,hA⟩:=q
      refine ⟨m',hN'.ns (J.restAt (p:=(_,oC')) List.mem_cons_self),fun h' hs'=>?_⟩
      have J1:=J.gone (c:=cRest2 c _ _ oC' oD') (r:=_::c.rest) rfl (fun b q hb e=>(hs'.2 b hb).trans e) s'.toks
      have J2:=J1.toImm (r:=c.rest) rfl
      exact hQ _ _ _ (x'.trans ⟨[_],rfl⟩) J2 ⟨zs,⟨_,oD',k,rfl,.inl List.mem_cons_self,d1,d2⟩,hA⟩
  exact codeAny_compStart_list (loop _ rfl) (W.self 0 _ _ _ hst (loop _ rfl))
theorem mX {cs:Scope} (h:noFree cs=true):∀ x∈cs.names,x.2≠.free:=fun x hx e=>by
  have:=List.all_eq_true.mp h x hx
  rw [e] at this
  cases this
theorem lI {cs:Scope} (h:lJ cs=true):∀ x∈cs.names,x.2=.local→cs.names.lookup x.1=some .local:=fun x hx e=>by
  have:=List.all_eq_true.mp h x hx
  rw [e] at this
  simpa using this
theorem lB {α:Type} {R:α→Value→Prop} {l:List α} {vs:Array Value} (h:All2 R l vs.toList) {i:Nat} {a:α} {V:Value} (h1:l[i]?=some a) (h2:vs[i]?=some V):R a V:=by
  obtain ⟨W,h3,h4⟩:=iB h h1
  rw [h2] at h3
  cases h3
  exact h4
theorem txt_join:∀ l:List T,Str.join ⟨#[]⟩ (l.map S)=S l.flatten
  | []=>rfl
  | x::r=>by
    rw [List.map_cons,PyProof.Rows.join_nil_cons,txt_join r,S_app,List.flatten_cons]
section
variable {d:Nat} {sc cs:Scope} {st st₁ st₂ st':Sx} {fl:Fl} {x:Str} {px pos:Pos} {iter elt:Expr} {ifs:List Expr}
theorem inH_any {c:Cx} {imm:List (Addr×Obj)} (O:CxOK c) {a:Addr} {o:Obj} (h:inH c.P imm a o):(a,o)∈imm∨c.base.get? a=some o∨(a,o)∈c.rest:=by
  rcases h with h | h
  · exact .inl h
  · exact .inr (.inl (O.XB a o h))
theorem Ev.compIl {l:List Int} {ys:List T} (hk:cs.kind=.function) (hfree:noFree cs=true) (hcell:fZ cs=true) (hnames:lJ cs=true) (hx:cs.names.lookup x=some .local) (he:Ev d sc iter st (.il l) st₁) (hsz:l.length≤100000)
    (run:CRun d sc cs x ifs elt st₁ (l.map SV.int) ys) (hs:∀ env x,foldedSetIterable iter env x=pure x):Ev d sc (.ListComp elt [⟨.Name x px,iter,ifs,0⟩] cs pos) st (.tl ys) st₁:=.mk fun c imm s O R hc I =>
  wpAny_ListComp (mX hfree) hk (lI hnames) (he.use O R hc I fun V s₁ imm₁ x₁ I₁ q₁=>by
    obtain ⟨vs,⟨a,o,n,rfl,h1,h2,h3⟩,hA⟩:=q₁
    exact comp_ev O R hc hk hfree hcell hnames hx (by rw [List.length_map]; exact hsz) run x₁ I₁ (nH O I₁ (inH_any O h1) h2 h3 (by rw [List.length_map,hA.length]; simp) fun i v V e q imm=>by
      rw [List.getElem?_map] at e
      obtain ⟨y,h4,rfl⟩:=Option.map_eq_some_iff.mp e
      exact lB hA h4 q) fun W s' imm' x' I' q=>⟨imm',x',I',q⟩) (hs c.env)
theorem Ev.compLst {loc:Loc} {a:Addr} {l ys:List T} (hk:cs.kind=.function) (hfree:noFree cs=true) (hcell:fZ cs=true) (hnames:lJ cs=true) (hx:cs.names.lookup x=some .local) (he:Ev d sc iter st (.lst a) ⟨loc,.lst a l⟩) (hsz:l.length≤100000)
    (run:CRun d sc cs x ifs elt ⟨loc,.none⟩ (l.map SV.str) ys) (hs:∀ env x,foldedSetIterable iter env x=pure x):Ev d sc (.ListComp elt [⟨.Name x px,iter,ifs,0⟩] cs pos) st (.tl ys) ⟨loc,.lst a l⟩:=.mk fun c imm s O R hc I =>
  wpAny_ListComp (mX hfree) hk (lI hnames) (he.use O R hc I fun V s₁ imm₁ x₁ I₁ q₁=>by
    cases q₁
    obtain ⟨o,vs,n,h1,h2,h3,hA,I₂⟩:=I₁.freeze
    have O':CxOK { c with rest:=(a,o)::c.rest }:=⟨O.XB,O.TB,O.kind,O.hd⟩
    exact comp_ev (c:={ c with rest:=(a,o)::c.rest }) O' R hc hk hfree hcell hnames hx (by rw [List.length_map]; exact hsz) run x₁ I₂ (nH O' I₂ (.inr (.inr List.mem_cons_self)) h1 h3 (by rw [List.length_map,hA.length]; simp) fun i v V e q imm=>by
      rw [List.getElem?_map] at e
      obtain ⟨y,h4,rfl⟩:=Option.map_eq_some_iff.mp e
      exact lB hA h4 q) fun W s' imm' x' I' q=>⟨imm',x',I'.thaw h1 h2 h3 hA,q⟩) (hs c.env)
theorem Ev.join {o e:Expr} {ap p:Pos} {l:List T} (ho:Ev d sc o st (.str []) st₁) (he:Ev d sc e st₁ (.tl l) st₂) (hl:l.flatten.length≤lim) (hn:l.length≤100000) (hz:nV o "join" ap [e] p) (hs:bU e=true:=by rfl) :
    Ev d sc (.Call (.Attribute o "join" ap) [e] [] p) st (.str l.flatten) st₂:=.mk fun c imm s O R hc I=>by
  obtain ⟨pl,hz⟩:=hz c.env
  refine MethodCall_ ?_ hz
  refine ho.use O R hc I fun V₁ s₁ imm₁ x₁ I₁ q₁=>?_
  obtain ⟨t,rfl,_⟩:=q₁
  refine GM.join (callWith_method1 (args_cons ?_ (aV hs)) (aV hs))
  refine he.use O R hc I₁ fun V₂ s₂ imm₂ x₂ I₂ q₂=>args_nil ?_
  obtain ⟨vs,h1,h2⟩:=q₂
  obtain ⟨a,rfl,h3⟩:=I₂.isList O h1
  have hsum:((l.map S).map (·.length)).sum=l.flatten.length:=by
    rw [List.map_map,List.length_flatten]
    congr 1
  have hlim:lim=65536:=rfl
  refine join_list h3 (iY h2) (by rw [hsum,cD,List.length_nil]; lia) fun t' k=>?_
  rw [show Txt.join (S []) (l.map S)=S l.flatten from (eq_of_beq (join_closes (sep:=S []) (sep':=⟨#[]⟩) (ys:=l.map S) rfl)).trans (txt_join l)]
  exact cJ (x₁.trans x₂) ⟨imm₂,.refl,I₂.tok _,.str_ _ hl⟩
theorem Ex.forIn_ {e:Expr} {p:Pos} {body:List Stmt} {v:SV} {vs:List SV} (he:Ev d sc e st v st₁) (hx:sc.names.lookup x=some .local) (run:FRun d sc x body vs st₁ fl st')
    (hit:∀ (c:Cx) (imm:List (Addr×Obj)) (s:Shared) (V:Value),CxOK c→Inv c imm st₁ s→VR c.P imm v V→∀ (Q:Value→Shared→Prop) (E:Value→Shared→Prop),
      (∀ (oI:Obj) (fp:List Addr) (n:Nat) (P:Nat→Value→Prop) (St:Nat→Heap→Prop),oI.isFreed=false→Walks pw c.w c.A s.heap.objs.size fp [s.heap.objs.size] n P St→(∀ i h,St i h→∃ o,h.get? s.heap.objs.size=some o)→vs.length=n →
        (∀ i v V,vs[i]?=some v→P i V→∀ imm,VR c.P imm v V)→(∀ b∈fp,b≠s.heap.objs.size→∃ q,(b,q)∈imm∨c.base.get? b=some q)→St 0 (s.heap.push oI)→Q (.ref s.heap.objs.size) { s with heap:=s.heap.push oI }) →
      wpAny (model pw c.w) c.A (pyIter V) Q E s)
    (hf:∀ env x,foldedSetIterable e env x=pure x):Ex d sc (.For (.Name x px) e body [] p) st fl st':=.mk fun c imm s O R hc I=>by
  refine wpAny_For ?_ (hf _)
  refine he.use O R hc I fun V s₁ imm₁ x₁ I₁ q₁=>?_
  refine hit c imm₁ s₁ V O I₁ q₁ _ _ fun oI fp n P St hfr W hI hn hP hfp h0=>?_
  exact for_core O R hc W hI hn hP hx hfp run x₁ (I₁.own oI hfr) h0
theorem Ex.forStr {e:Expr} {p:Pos} {body:List Stmt} {y:T} (he:Ev d sc e st (.str y) st₁) (hx:sc.names.lookup x=some .local) (run:FRun d sc x body (y.map fun ch=>SV.str [ch]) st₁ fl st')
    (hf:∀ env x,foldedSetIterable e env x=pure x):Ex d sc (.For (.Name x px) e body [] p) st fl st':=Ex.forIn_ he hx run (fun c imm s V O I q Q E k=>by
  obtain ⟨t,rfl,_⟩:=q
  have hP:∀ (i:Nat) (v:SV) (V:Value),(y.map fun ch=>SV.str [ch])[i]?=some v→SignAt (S y) i V→∀ imm,VR c.P imm v V:=fun i v V e q imm=>by
    obtain ⟨ch,u,h1,rfl⟩:=q
    rw [List.getElem?_map] at e
    obtain ⟨ch',h2,rfl⟩:=Option.map_eq_some_iff.mp e
    have:(S y).cps[i]?=some ch':=by unfold S; simpa using h2
    rw [this] at h1
    cases h1
    exact .str_ _ (by show 1≤65536; decide)
  have hl:(y.map fun ch=>SV.str [ch]).length=(S y).cps.size:=by simp [S]
  cases ha:(S y).cps.all (· < 128)
  · exact wpAny_pyIter_wide ha (k _ [s.heap.objs.size] _ _ _ rfl (Walks.strWide O.handled _ (S y) t) (fun i h q=>let ⟨o,ho,_⟩:=q; ⟨o,ho⟩) hl hP (fun b hb hne=>(hne (by simpa using hb)).elim) ⟨_,Heap.get?_push_size _ rfl,rfl,rfl⟩)
  · exact wpAny_pyIter_ascii ha (k _ [s.heap.objs.size] _ _ _ rfl (Walks.strAscii O.handled _ (S y) t) (fun i h q=>let ⟨o,ho,_⟩:=q; ⟨o,ho⟩) hl hP (fun b hb hne=>(hne (by simpa using hb)).elim) ⟨_,Heap.get?_push_size _ rfl,rfl,rfl⟩)) hf
theorem Ex.forTl {e:Expr} {p:Pos} {body:List Stmt} {l:List T} (he:Ev d sc e st (.tl l) st₁) (hx:sc.names.lookup x=some .local) (run:FRun d sc x body (l.map SV.str) st₁ fl st')
    (hf:∀ env x,foldedSetIterable e env x=pure x):Ex d sc (.For (.Name x px) e body [] p) st fl st':=Ex.forIn_ he hx run (fun c imm s V O I q Q E k=>by
  obtain ⟨vs,⟨a,o,n,rfl,h1,h2,h3⟩,hA⟩:=q
  have ho:=I.at O h1
  have hL:s.heap.IsList a vs:=⟨o,ho,h2,n,h3⟩
  have hne:a≠s.heap.objs.size:=Nat.ne_of_lt (Heap.lt_size ho)
  refine wpAny_pyIter_list hL (k _ [s.heap.objs.size,a] vs.size _ _ rfl (Walks.list O.handled _ a hne vs) (fun i h q=>let ⟨⟨o,ho,_⟩,_⟩:=q; ⟨o,ho⟩) (by rw [List.length_map,hA.length]; simp) (fun i v V e q imm=>?_) (fun b hb hne'=>?_) ⟨⟨_,Heap.get?_push_size _ rfl,rfl,rfl⟩,hL.push _⟩)
  · rw [List.getElem?_map] at e
    obtain ⟨y,h4,rfl⟩:=Option.map_eq_some_iff.mp e
    exact lB hA h4 q
  · simp at hb
    rcases hb with rfl | rfl
    · exact (hne' rfl).elim
    · rcases h1 with h | h
      · exact ⟨o,.inl h⟩
      · exact ⟨o,.inr (O.XB _ o h)⟩) hf
theorem Ex.forTo {rp cp p:Pos} {e:Expr} {b:Int} {body:List Stmt} (hr:sc.names.lookup ("range" : Str)=some .globalImplicit) (he:Ev d sc e st (.int b) st₁) (hx:sc.names.lookup x=some .local)
    (hb' : -(2 ^ 40)≤b∧b < 2 ^ 40) (run:FRun d sc x body (upTo 0 b) st₁ fl st') (h1:bU e=true:=by rfl) :
    Ex d sc (.For (.Name x px) (.Call (.Name "range" rp) [e] [] cp) body [] p) st fl st':=.mk fun c imm s O R hc I=>by
  refine wpAny_For ?_ Zn
  refine Call_ (iX O I (k_range _) boot_range (by decide) (hc▸hr) (by decide) (PyProof.Rows.callWith_type1 (args_cons ?_ (aV h1)) (aV h1)))
  refine he.use O R hc I fun V₁ s₁ imm₁ x₁ I₁ q₁=>args_nil ?_
  obtain ⟨t,rfl⟩:=q₁
  obtain ⟨g,m,mt,T,F,N,B,D,MO,ND,LO⟩:=id I₁.ex
  refine range1_rows F N fun h' tk t₁ u₁ v₁ hR F' N' kp=>?_
  refine wpAny_mono (nM (s:={ s₁ with heap:=h',toks:=tk }) (n:=(b - 0).toNat) O R hc hR (small_one (by lia) (by lia) (by lia) (by lia)) ?_ (by simp [upTo]) (fun i w e=>?_) hx run x₁ (I₁.keeps kp tk)) (fun _ _ h=>h) fun _ _ f=>f.elim
  · rw [rangeSize_one]; split <;> lia
  · unfold upTo at e
    rw [List.getElem?_map] at e
    obtain ⟨j,hj,rfl⟩:=Option.map_eq_some_iff.mp e
    obtain ⟨_,e'⟩:=List.getElem?_eq_some_iff.mp hj
    rw [List.getElem_range] at e'
    subst e'
    simp
end
theorem comp_core2 {d:Nat} {sc cs:Scope} {x:Str} {px:Pos} {iter elt:Expr} {ifs:List Expr} {pos:Pos} {c:Cx} {imm imm₀:List (Addr×Obj)} {st:Sx} {s:Shared} {V:Value} {vs:List SV} {ys:List T} {E:Value→Shared→Prop}
    (O:CxOK c) (R:Room c d) (hs:c.scope=sc) (hk:cs.kind=.function) (hfree:noFree cs=true) (hcell:fZ cs=true) (hnames:lJ cs=true) (hx:cs.names.lookup x=some .local) (hsz:vs.length≤100000)
    (run:CRun d sc cs x ifs elt st vs ys) (x₀:Ext imm₀ imm) (I:Inv c imm st s) (hit:nW c imm V vs s) {RR:Value→Env→Result→Shared→Prop}
    (hend:∀ (C D:Addr) (s':Shared) (imm':List (Addr×Obj)) (oC' oD':Obj) (m':Str→Option Value) (zs:Array Value) (k:Nat) (f:Flow),Ext imm₀ imm'→Inv (cRest2 c C D oC' oD') imm' st s'→NsO oC' m'→oD'.cls=.type "list" → oD'.data=.seq zs k→All2 StrV ys zs.toList→RR (.ref D) (compEnv cs C c.env) (.ok f) s') :
    wpAny c.M c.A (pyIter V) (fun it s₂=>wpAny c.M c.A (newList []) (fun acc s₃ =>
      wpAny c.M c.A (newFunctionEnv cs c.env.globals [] [] c.env.qual none .none (some c.env)) (fun cenv s₄ =>
        codeAny c.M c.A (.compStart (.ListComp elt [⟨.Name x px,iter,ifs,0⟩] cs pos) 0 it acc { cenv with scope:=cs }) (fun r s'=>RR acc { cenv with scope:=cs } r s') s₄) E s₃) E s₂) E s:=by
  refine hit _ _ fun oI fp n P St hfr W hI hn hP hfp h0=>?_
  have I1:=I.own oI hfr
  refine wpAny_newObj_type ?_ (by show (0:Nat)≤sizeLine; exact Nat.zero_le _)
  have I2:=I1.own { cls:=.type "list",data:=.seq ([]:List Value).toArray } rfl
  refine wpAny_newFunctionEnv (cell_of hcell) (by intro y hy; simp at hy) (fun h₁ hns₁ hsb₁=>?_) hk
  have I3:=I2.own { cls:=.type "dict",data:=.dict #[] } rfl
  obtain ⟨oC,hoC,hN⟩:=nsO_of hns₁
  have e1:(s.heap.push oI).objs.size=s.heap.objs.size+1:=Heap.size_push ..
  have e2:((s.heap.push oI).push { cls:=.type "list",data:=.seq ([]:List Value).toArray }).objs.size=s.heap.objs.size+2:=by rw [Heap.size_push,e1]
  have I4:Inv (dG c s.heap.objs.size ((s.heap.push oI).push { cls:=.type "list",data:=.seq ([]:List Value).toArray }).objs.size (s.heap.push oI).objs.size oI oC { cls:=.type "list",data:=.seq ([]:List Value).toArray }) imm st { s with heap:=h₁ }:=by
    have I3':=I3.perm (c:=Cx.plus (Cx.plus (Cx.plus c _) _) _) (r:=(s.heap.objs.size,oI)::(((s.heap.push oI).push { cls:=.type "list",data:=.seq ([]:List Value).toArray }).objs.size,{ cls:=.type "dict",data:=.dict #[] })::((s.heap.push oI).objs.size,{ cls:=.type "list",data:=.seq ([]:List Value).toArray })::c.rest) (by
      show List.Perm (_::_::_::c.rest) _
      exact (List.perm_append_comm (l₁:=[_,_]) (l₂:=[_])).append_right c.rest)
    refine I3'.turn1 (r':=(s.heap.objs.size,oI)::(((s.heap.push oI).push { cls:=.type "list",data:=.seq ([]:List Value).toArray }).objs.size,oC)::((s.heap.push oI).objs.size,{ cls:=.type "list",data:=.seq ([]:List Value).toArray })::c.rest) rfl (List.mem_cons_of_mem _ List.mem_cons_self) (fun p hp=>?_) rfl (fun b q hb e=>(hsb₁.2 b hb).trans e) hoC s.toks
    have nd:=I3'.restND
    simp only [List.map_cons,List.nodup_cons,List.mem_cons,not_or] at nd
    rcases List.mem_cons.mp hp with rfl | hp
    · exact .inl ⟨List.mem_cons_self,nd.1.1⟩
    · rcases List.mem_cons.mp hp with rfl | hp
      · exact .inr rfl
      · refine .inl ⟨List.mem_cons_of_mem _ (List.mem_cons_of_mem _ hp),?_⟩
        rcases List.mem_cons.mp hp with rfl | hp
        · exact fun q=>nd.2.1.1 q.symm
        · exact fun q=>nd.2.1.2 (q▸List.mem_map.mpr ⟨p,hp,rfl⟩)
  have hst:St 0 h₁:=W.frame 0 _ _ h0 fun b hb q e=>by
    have hlt:b < s.heap.objs.size+1:=by rw [← e1]; exact Heap.lt_size e
    refine (hsb₁.2 b ?_).trans (Heap.get?_push_of_some _ (Heap.get?_push_of_some _ e))
    show b≠((s.heap.push oI).push _).objs.size
    rw [e2]
    exact Nat.ne_of_lt (Nat.lt_trans hlt (Nat.lt_succ_self _))
  have loop:∀ s₂:Shared,s₂={ s with heap:=h₁,toks:=s.toks+([]:List (Str×Value)).length } →
      codeAny c.M c.A (.compLoop (.ListComp elt [⟨.Name x px,iter,ifs,0⟩] cs pos) 0 (.ref s.heap.objs.size) (.ref (s.heap.push oI).objs.size) (compEnv cs ((s.heap.push oI).push { cls:=.type "list",data:=.seq ([]:List Value).toArray }).objs.size c.env))
        (fun r s'=>RR (.ref (s.heap.push oI).objs.size) (compEnv cs ((s.heap.push oI).push { cls:=.type "list",data:=.seq ([]:List Value).toArray }).objs.size c.env) r s') s₂:=by
    rintro s₂ rfl
    refine codeAny_mono (comp_loop O R hs hk W hI hn (by lia) hP hx (by rw [e2]; exact Nat.ne_of_lt (Nat.lt_add_of_pos_right (by decide))) (by rw [e1]; exact Nat.ne_of_lt (Nat.lt_succ_self _)) (by rw [e1,e2]; exact Nat.ne_of_gt (Nat.lt_succ_self _)) hfp run hN ⟨rfl,rfl,0,rfl⟩ x₀ I4 hst) fun r s' q=>?_
    cases r with
    | error e=>exact q.elim
    | ok f =>
      obtain ⟨imm',oC',oD',m',zs,k,x',J,hN',d1,d2,hA⟩:=q
      exact hend _ _ _ _ _ _ _ _ _ f x' J hN' d1 d2 hA
  exact codeAny_compStart_list (loop _ rfl) (W.self 0 _ _ _ hst (loop _ rfl))
theorem blockKind_of {c:Cx} (O:CxOK c):c.env.blockKind=.function:=by
  unfold Env.blockKind
  show (if c.scope.kind.isAnnotationScope then ScopeKind.function else c.scope.kind)=_
  rw [O.kind]
  rfl
theorem swaps_comp {cs:Scope} {x y:Str} {px py pos:Pos} {iter elt:Expr} {ifs:List Expr} {line:Nat} {env:Env} (h1:env.blockKind=.function) (h2:env.kindOf y=some .local) (h3:py.line=(Expr.ListComp elt [⟨.Name x px,iter,ifs,0⟩] cs pos).pos.line) (h4:(cs.names.any fun (n,k)=>n == y && (k == .local || k == .cell))=false) :
    swapsWith (.ListComp elt [⟨.Name x px,iter,ifs,0⟩] cs pos) (some (.Name y py)) line env=pure true:=by
  unfold swapsWith
  show (pure (env.blockKind == .function && env.kindOf y == some .local && py.line == (Expr.ListComp elt [⟨.Name x px,iter,ifs,0⟩] cs pos).pos.line && !(cs.names.any fun (n,k)=>n == y && (k == .local || k == .cell))):Sem Bool)=pure true
  rw [h1,h2,h3,h4]
  simp
section
variable {d:Nat} {sc cs:Scope} {st st₁ st':Sx} {x y:Str} {px py pos spos:Pos} {iter elt:Expr} {ifs:List Expr} {v:SV} {ys:List T}
theorem Ex.setComp {vs:List SV} (hk:cs.kind=.function) (hfree:noFree cs=true) (hcell:fZ cs=true) (hnames:lJ cs=true) (hx:cs.names.lookup x=some .local) (he:Ev d sc iter st v st₁) (hsz:vs.length≤100000)
    (run:CRun d sc cs x ifs elt st₁ vs ys) (hit:∀ (c:Cx) (imm:List (Addr×Obj)) (s:Shared) (V:Value),CxOK c→Inv c imm st₁ s→VR c.P imm v V→nW c imm V vs s)
    (hy:sc.names.lookup y=some .local) (hs:∀ env x,foldedSetIterable iter env x=pure x) (h3:py.line=(Expr.ListComp elt [⟨.Name x px,iter,ifs,0⟩] cs pos).pos.line) (h4:(cs.names.any fun (n,k)=>n == y && (k == .local || k == .cell))=false) :
    Ex d sc (.Assign [.Name y py] (.ListComp elt [⟨.Name x px,iter,ifs,0⟩] cs pos) spos) st .next { st₁ with loc:=putF y (.tl ys) st₁.loc }:=.mk fun c imm s O R hc I=>by
  rw [exec_Assign_Name_used _ _ _ _ (swaps_comp (env:=c.env) (blockKind_of O) (show c.scope.names.lookup y=some .local from hc▸hy) h3 h4)]
  refine wpAny_bind (wpAny_standAt (wpAny_bind ?_))
  have key:∀ (Q E:Value→Shared→Prop),(∀ s',QI c imm { st₁ with loc:=putF y (.tl ys) st₁.loc } s'→Q .none s')→wpAny c.M c.A (comprehension (.ListComp elt [⟨.Name x px,iter,ifs,0⟩] cs pos) cs c.env (firstIterPos [⟨.Name x px,iter,ifs,0⟩] pos) (newList []) false (eval iter c.env) (some (assign (.Name y py) c.env))) Q E s:=fun Q E kQ=>by
    refine wpAny_comprehension_use rfl (hs _) (mX hfree) hk (lI hnames) (he.use O R hc I fun V s₁ imm₁ x₁ I₁ q₁=>?_)
    refine comp_core2 O R hc hk hfree hcell hnames hx hsz run x₁ I₁ (hit c imm₁ s₁ V O I₁ q₁) (RR:=fun acc cenv r s'=>match r with
          | .ok _=>wpAny c.M c.A (assign (.Name y py) c.env acc) (fun _ s''=>∃ m,s''.heap.Ns cenv.locals m∧∀ h',Heap.SameBut cenv.locals s''.heap h'→Q .none { s'' with heap:=h' }) E s'
          | .error x=>∃ m,s'.heap.Ns cenv.locals m∧∀ h',Heap.SameBut cenv.locals s'.heap h'→wpAny c.M c.A (passOn "comprehension.variables-let-go" x cenv) Q E { s' with heap:=h' })
      fun C D s' imm' oC' oD' m' zs k f x' J hN d1 d2 hA=>?_
    have J1:=(J.perm (c:=cRest2 c C D oC' oD') (r:=(D,oD')::(C,oC')::c.rest) (List.Perm.swap _ _ _)).toImm (r:=(C,oC')::c.rest) rfl
    have O1:CxOK { c with rest:=(C,oC')::c.rest }:=⟨O.XB,O.TB,O.kind,O.hd⟩
    refine wpAny_assign_Name ?_
    refine dH (c:={ c with rest:=(C,oC')::c.rest }) O1 J1 (v:=.tl ys) ⟨zs,⟨_,oD',k,rfl,.inl List.mem_cons_self,d1,d2⟩,hA⟩ (hc▸hy) fun s'' I''=>?_
    refine ⟨m',hN.ns (I''.restAt (p:=(C,oC')) List.mem_cons_self),fun h' hs'=>kQ _ ⟨(D,oD')::imm',x'.trans ⟨[_],rfl⟩,?_⟩⟩
    exact I''.gone (c:={ c with rest:=(C,oC')::c.rest }) (r:=c.rest) rfl (fun b q hb e=>(hs'.2 b hb).trans e) s''.toks
  show wpAny c.M c.A (comprehension (.ListComp elt [⟨.Name x px,iter,ifs,0⟩] cs pos) cs c.env (firstIterPos [⟨.Name x px,iter,ifs,0⟩] pos) (newList []) false (eval iter c.env) (some (assign (.Name y py) c.env)) >>= fun _=>pure ()) _ _ s
  exact wpAny_bind (key _ _ fun s' q=>wpAny_pure (wpAny_pure ⟨rfl,q⟩))
theorem itok_tl {l:List T} (c:Cx) (imm:List (Addr×Obj)) (s:Shared) (V:Value) (O:CxOK c) (I:Inv c imm st s) (q:VR c.P imm (.tl l) V):nW c imm V (l.map SV.str) s:=by
  obtain ⟨vs,⟨a,o,n,rfl,h1,h2,h3⟩,hA⟩:=q
  exact nH O I (inH_any O h1) h2 h3 (by rw [List.length_map,hA.length]; simp) fun i v V e q imm=>by
    rw [List.getElem?_map] at e
    obtain ⟨y,h4,rfl⟩:=Option.map_eq_some_iff.mp e
    exact lB hA h4 q
theorem itok_str {z:T} (c:Cx) (imm:List (Addr×Obj)) (s:Shared) (V:Value) (O:CxOK c) (I:Inv c imm st s) (q:VR c.P imm (.str z) V):nW c imm V (z.map fun ch=>.str [ch]) s:=by
  obtain ⟨t,rfl,_⟩:=q
  exact iter_str O I
end
section
variable {c:Cx} {imm:List (Addr×Obj)} {st:Sx} {s:Shared}
theorem Inv.lstObj (I:Inv c imm st s) {a:Addr} {l:List T} (hf:st.f=.lst a l):∃ o vs n,s.heap.get? a=some o∧o.cls=.type "list" ∧ o.dict=none∧o.data=.seq vs n∧All2 StrV l vs.toList:=by
  obtain ⟨g,m,mt,T,F,N,B,D,MO,ND,LO⟩:=I.ex
  unfold MutOK at MO
  rw [hf] at MO
  obtain ⟨o,vs,n,rfl,h1,h2,h3,h4⟩:=MO
  exact ⟨o,vs,n,(N _ (List.mem_append_left _ (List.mem_singleton.mpr rfl))).1,h1,h2,h3,h4⟩
theorem Inv.lstChange (I:Inv c imm st s) {a:Addr} {l l':List T} (hf:st.f=.lst a l) {h':Heap} {o:Obj} {vs:Array Value} {n:Nat} (hs:∀ b q,b≠a→s.heap.get? b=some q→h'.get? b=some q) (ho:h'.get? a=some o) (h1:o.cls=.type "list") (h2:o.dict=none) (h3:o.data=.seq vs n) (h4:All2 StrV l' vs.toList) (k:Nat) :
    Inv c imm { st with f:=.lst a l' } { s with heap:=h',toks:=k }:=by
  obtain ⟨g,m,mt,T,F,N,B,D,MO,ND,LO⟩:=I.ex
  unfold MutOK at MO
  rw [hf] at MO
  obtain ⟨o₀,vs₀,n₀,rfl,_⟩:=MO
  have ha:=N (a,o₀) (List.mem_append_left _ (List.mem_singleton.mpr rfl))
  have ND':a ∉ (imm++c.rest).map (·.1):=by
    have:((a,o₀)::(imm++c.rest)).map (·.1)=a::(imm++c.rest).map (·.1):=rfl
    exact (List.nodup_cons.mp (this▸(show (((a,o₀)::(imm++c.rest)).map (·.1)).Nodup from ND))).1
  have F':Fr g c.L h' m:=by
    obtain ⟨oL,es,ep,e1,e2⟩:=F.ns
    refine ⟨⟨oL,es,ep,hs _ _ (Ne.symm ha.2.1) e1,e2⟩,fun b q e=>hs b q (fun h=>?_) (F.keep b q e),F.above⟩
    rw [h,ha.2.2] at e
    cases e
  refine ⟨I.sh,g,m,[(a,o)],T,F',fun p hp=>?_,B,D,⟨o,vs,n,rfl,h1,h2,h3,h4⟩,ND,LO⟩
  rcases List.mem_cons.mp (show p∈(a,o)::(imm++c.rest) from hp) with rfl | hp
  · exact ⟨ho,ha.2⟩
  · have hp':=N p (List.mem_append_right _ hp)
    exact ⟨hs p.1 p.2 (fun q=>ND' (q▸List.mem_map.mpr ⟨p,hp,rfl⟩)) hp'.1,hp'.2⟩
end
section
variable {prog:Program} {w:World} {A:Around} {E:Value→Shared→Prop} {s:Shared}
theorem mW (o:Obj) (f:Array Value→Array Value):(o.mapSeq f).dict=o.dict:=by
  obtain ⟨c,d,dt,sl⟩:=o; cases dt <;> rfl
theorem setItem_last {l:Addr} {items:Array Value} {o:Obj} {ne:Nat} {t:Tok} {v:Value} {Q:Unit→Shared→Prop} (ho:s.heap.get? l=some o) (hc:o.cls=.type "list") (hd:o.data=.seq items ne) (hn:0 < items.size)
    (hQ:∀ h' o' n',h'.get? l=some o'→o'.cls=.type "list" → o'.dict=o.dict→o'.data=.seq (items.setIfInBounds (items.size - 1) v) n'→Heap.SameBut l s.heap h'→Q () { s with heap:=h' }) :
    wpAny (model prog w) A (setItem (.ref l) (.int (-1) t) v) Q E s:=by
  have hl:s.heap.IsList l items:=⟨o,ho,hc,ne,hd⟩
  unfold setItem
  try with_reducible refine wpAny_holding ?_
  first | refine wpAny_bind (wpAny_pure ?_) | skip
  refine wpAny_bind (wpAny_sequenceKey hl.typeIs (by decide) ?_)
  refine wpAny_bind (wpAny_callSpecial?_slot (name:=Str.ofString "__setitem__") hl.typeIs slot_list_setitem
    (wpAny_call_entry slot_list_setitem hl.typeIs entry_list_setitem ?_ (args_list_setitem _ _ _)))
  show wpAny _ _ (Builtin.List.listSubscript? (.int (-1) t) >>= _) _ _ s
  refine wpAny_bind (wpAny_listSubscript_int (fitsIndex_neg (by decide) (by decide)) ?_)
  have hidx:=seqIndex_neg (k := -1) (n:=items.size) (by decide) (by lia)
  rw [show ((-1:Int)+items.size).toNat=items.size - 1 by lia] at hidx
  have hx':items[items.size - 1]?=some items[items.size - 1]:=Array.getElem?_eq_getElem (by lia)
  show wpAny _ _ ((Builtin.List.listItems (.ref l) >>= fun xs=>pure ((seqIndex? (-1) xs.size).bind fun i=>xs[i]?.map (i,·))) >>= _) _ _ s
  refine wpAny_bind (wpAny_bind ?_)
  show wpAny _ _ (seqItems? (.ref l) >>= _) _ _ s
  refine wpAny_bind (wpAny_seqItems ho hd (wpAny_pure (wpAny_pure ?_)))
  rw [hidx]
  simp only [Option.bind_some,hx',Option.map_some]
  show wpAny _ _ (setSeqItemAt l (items.size - 1) v >>= _) _ _ s
  obtain ⟨n',hd'⟩:=Obj.data_mapSeq hd (·.setIfInBounds (items.size - 1) v)
  have hq:Q () { s with heap:=s.heap.update l (Obj.mapSeq (·.setIfInBounds (items.size - 1) v)) } :=
    hQ _ _ n' (Heap.get?_update_self _ ho (Obj.isFreed_of_seq hd')) ((Obj.cls_mapSeq ..).trans hc) (mW ..) hd' (Heap.SameBut.update ..)
  refine wpAny_bind (wpAny_setSeqItemAt ho hd ?_)
  first
    | exact wpAny_bind (wpAny_pure (wpAny_pure ⟨.none,rfl,wpAny_pure hq⟩))
    | exact wpAny_pure ⟨.none,rfl,wpAny_pure hq⟩
end
theorem lA {x y:T} {V:Value} (hx:StrV x V):∀ {l:List T} {m:List Value},All2 StrV (l++[y]) m→All2 StrV (l++[x]) (m.set l.length V)
  | [],_,.cons _ .nil=>.cons hx .nil
  | _::_,_,.cons a b=>.cons a (lA hx b)
section
variable {d:Nat} {sc:Scope} {st st₁ st₂ st₃ st':Sx}
theorem Ev.append {o e:Expr} {ap p:Pos} {a:Addr} {l l₁:List T} {x:T} (ho:Ev d sc o st (.lst a) st₁) (hf₁:st₁.f=.lst a l₁) (he:Ev d sc e st₁ (.str x) st₂) (hf:st₂.f=.lst a l) (hl:l.length≤100000) (hz:nV o "append" ap [e] p) (hs:bU e=true:=by rfl) :
    Ev d sc (.Call (.Attribute o "append" ap) [e] [] p) st .none ⟨st₂.loc,.lst a (l++[x])⟩:=.mk fun c imm s O R hc I=>by
  obtain ⟨pl,hz⟩:=hz c.env
  refine MethodCall_ ?_ hz
  refine ho.use O R hc I fun V₁ s₁ imm₁ x₁ I₁ q₁=>?_
  cases q₁
  obtain ⟨o₁,vs₁,n₁,g1,g2,g3,g4,g5⟩:=I₁.lstObj hf₁
  refine getMethod_list_append g1 g2 g3 (callWith_method1 (args_cons ?_ (aV hs)) (aV hs))
  refine he.use O R hc I₁ fun V₂ s₂ imm₂ x₂ I₂ q₂=>args_nil ?_
  obtain ⟨o₂,vs,n,h1,h2,h3,h4,h5⟩:=I₂.lstObj hf
  have hsz:vs.size=l.length:=by rw [h5.length]; simp
  refine list_append_plainL (hsz:=by rw [hsz]; exact Nat.le_trans hl (by decide)) ⟨o₂,n,h1,h2,h3,h4⟩ fun h' hp hs'=>?_
  obtain ⟨o',n',e1,e2,e3,e4⟩:=hp
  exact cJ (x₁.trans x₂) ⟨imm₂,.refl,I₂.lstChange hf (fun b q hb e=>(hs'.2 b hb).trans e) e1 e2 e3 e4 (by rw [Array.toList_push]; exact h5.app (.cons q₂ .nil)) s₂.toks,rfl⟩
theorem Ex.setLast {o i e:Expr} {p q:Pos} {a:Addr} {l:List T} {y x:T} (he:Ev d sc e st (.str x) st₁) (ho:Ev d sc o st₁ (.lst a) st₂) (hi:Ev d sc i st₂ (.int (-1)) st₃) (hf:st₃.f=.lst a (l++[y])) (hs:∀ env:Env,swapsWith e (some (.Subscript o i p)) q.line env=pure false) :
    Ex d sc (.Assign [.Subscript o i p] e q) st .next ⟨st₃.loc,.lst a (l++[x])⟩:=.mk fun c imm s O R hc I=>by
  refine wpAny_Assign_Subscript ?_ (hs _)
  refine he.use O R hc I fun V₁ s₁ imm₁ x₁ I₁ q₁=>ho.use O R hc I₁ fun V₂ s₂ imm₂ x₂ I₂ q₂=>hi.use O R hc I₂ fun V₃ s₃ imm₃ x₃ I₃ q₃=>?_
  cases q₂
  obtain ⟨u,rfl⟩:=q₃
  obtain ⟨o₂,vs,n,h1,h2,h3,h4,h5⟩:=I₃.lstObj hf
  have hsz:vs.size=l.length+1:=by have:=h5.length; simp at this; lia
  refine setItem_last h1 h2 h4 (by lia) fun h' o' n' e1 e2 e3 e4 hs'=>?_
  refine ⟨rfl,imm₃,(x₁.trans x₂).trans x₃,I₃.lstChange hf (fun b q hb e=>(hs'.2 b hb).trans e) e1 e2 (e3.trans h3) e4 ?_ s₃.toks⟩
  rw [Array.toList_setIfInBounds,hsz,Nat.add_sub_cancel]
  exact lA (q₁:StrV x V₁) h5
theorem Exs.newLst {x:Str} {px p q:Pos} {loc:Loc} {rest:List Stmt} {v:SV} {st':Addr→Sx} (hl:sc.names.lookup x=some .local) (hs:∀ env:Env,swapsWith (.List [] q) (some (.Name x px)) p.line env=pure false)
    (h:∀ a,Exs d sc rest ⟨putF x (.lst a) loc,.lst a []⟩ (.ret v) (st' a)):Exs d sc (.Assign [.Name x px] (.List [] q) p::rest) ⟨loc,.none⟩ (.ret v) ⟨[],.none⟩:=.mk fun c imm s O R hc I=>by
  refine wpAny_execs_cons ?_
  refine wpAny_Assign_Name (List_ (args_nil ?_)) (hs _)
  refine wpAny_newObj_type ?_ (by show (0:Nat)≤sizeLine; exact Nat.zero_le _)
  have I1:=(I.own { cls:=.type "list",data:=.seq ([]:List Value).toArray } rfl)
  have I2:Inv c imm ⟨loc,.lst s.heap.objs.size []⟩ { s with heap:=s.heap.push { cls:=.type "list",data:=.seq ([]:List Value).toArray } }:=Inv.thaw (o:={ cls:=.type "list",data:=.seq ([]:List Value).toArray }) (vs:=([]:List Value).toArray) (n:=0) rfl rfl rfl .nil I1
  refine dH O I2 (v:=.lst s.heap.objs.size) rfl (hc▸hl) fun s'' I''=>?_
  refine wpAny_mono ((h s.heap.objs.size).run c imm s'' O R hc I'') (fun F s₂ q=>?_) fun e s₂ q=>q.elim
  obtain ⟨V,rfl,imm',x',J,hV⟩:=q
  refine ⟨V,rfl,imm',x',?_,hV⟩
  obtain ⟨g,m,mt,T,F,N,B,D,MO,ND,LO⟩:=J.ex
  have sub:(([]:List (Addr×Obj))++(imm'++c.rest)).Sublist (mt++(imm'++c.rest)):=List.sublist_append_right mt _
  exact ⟨J.sh,g,m,[],T,F,fun p hp=>N p (sub.subset hp),B,D,rfl,(sub.map _).nodup ND,fun x v e=>by cases e⟩
end
theorem dE:(aE (stM 26)).names.lookup ("base" : Str)=some NameKind.local:=by kernel_rfl
theorem iS:(aE (stM 26)).names.lookup ("bases" : Str)=some NameKind.local:=by kernel_rfl
theorem gM:(aE (stM 26)).names.lookup ("len" : Str)=some NameKind.globalImplicit:=by kernel_rfl
theorem gK:(aE (stM 26)).names.lookup ("off" : Str)=some NameKind.local:=by kernel_rfl
theorem m26_offs:(aE (stM 26)).names.lookup ("offs" : Str)=some NameKind.local:=by kernel_rfl
theorem dY:(aE (stM 26)).names.lookup ("part" : Str)=some NameKind.local:=by kernel_rfl
noncomputable def HATL:List (T×T):=[([99],[265]),([103],[285]),([104],[293]),([106],[309]),([115],[349]),([117],[365])]
noncomputable def ACCL:List (T×T):=[([225],[97]),([233],[101]),([237],[105]),([243],[111]),([250],[117])]
noncomputable def FORL:List T:=[[113],[119],[120],[121],[225],[233],[237],[243],[250]]
noncomputable def VOWL:List T:=[[97],[101],[105],[111],[117]]
noncomputable def DIGL:List T:=[[48],[49],[50],[51],[52],[53],[54],[55],[56],[57]]
noncomputable def SHAP:List (T×T):=[([],[]),([45],[]),([],[110]),([45],[110]),([],[106]),([45],[106]),([],[106,110]),([45],[106,110]),([],[39]),([45],[39])]
theorem hats_ok {d:Nat}:∀ f,CallOK (d+1) 707 [] f (.dct HATL) f:=Cf fn_law_hats rfl (.inl rfl) (Ab (Ax (Ev.dctDisp (l:=HATL) (by kernel_rfl) (by kernel_rfl) (by decide +kernel) (by kernel_rfl) (by kernel_rfl) (by simp) Zb (by decide))) (by simp))
theorem accs_ok {d:Nat}:∀ f,CallOK (d+1) 714 [] f (.dct ACCL) f:=Cf fn_law_accents rfl (.inl rfl) (Ab (Ax (Ev.dctDisp (l:=ACCL) (by kernel_rfl) (by kernel_rfl) (by decide +kernel) (by kernel_rfl) (by kernel_rfl) (by simp) Zb (by decide))) (by simp))
theorem fors_ok {d:Nat}:∀ f,CallOK (d+1) 721 [] f (.tl FORL) f:=Cf fn_law_foreign rfl (.inl rfl) (Ab (Ax (Bj (xs:=[[113],[119],[120],[121],[225],[233],[237],[243],[250]]) (Ah (Ar (x:=[113]) (by rfl) Zb) (Ah (Ar (x:=[119]) (by rfl) Zb) (Ah (Ar (x:=[120]) (by rfl) Zb) (Ah (Ar (x:=[121]) (by rfl) Zb) (Ah (Ar (x:=[225]) (by rfl) Zb) (Ah (Ar (x:=[233]) (by rfl) Zb) (Ah (Ar (x:=[237]) (by rfl) Zb) (Ah (Ar (x:=[243]) (by rfl) Zb) (Ah (Ar (x:=[250]) (by rfl) Zb) Aq))))))))) Zb)) (by simp))
theorem vows_ok {d:Nat}:∀ f,CallOK (d+1) 728 [] f (.tl VOWL) f:=Cf fn_law_vowels rfl (.inl rfl) (Ab (Ax (Bj (xs:=[[97],[101],[105],[111],[117]]) (Ah (Ar (x:=[97]) (by rfl) Zb) (Ah (Ar (x:=[101]) (by rfl) Zb) (Ah (Ar (x:=[105]) (by rfl) Zb) (Ah (Ar (x:=[111]) (by rfl) Zb) (Ah (Ar (x:=[117]) (by rfl) Zb) Aq))))) Zb)) (by simp))
theorem digs_ok {d:Nat}:∀ f,CallOK (d+1) 735 [] f (.tl DIGL) f:=Cf fn_law_digits rfl (.inl rfl) (Ab (Ax (Bj (xs:=[[48],[49],[50],[51],[52],[53],[54],[55],[56],[57]]) (Ah (Ar (x:=[48]) (by rfl) Zb) (Ah (Ar (x:=[49]) (by rfl) Zb) (Ah (Ar (x:=[50]) (by rfl) Zb) (Ah (Ar (x:=[51]) (by rfl) Zb) (Ah (Ar (x:=[52]) (by rfl) Zb) (Ah (Ar (x:=[53]) (by rfl) Zb) (Ah (Ar (x:=[54]) (by rfl) Zb) (Ah (Ar (x:=[55]) (by rfl) Zb) (Ah (Ar (x:=[56]) (by rfl) Zb) (Ah (Ar (x:=[57]) (by rfl) Zb) Aq)))))))))) Zb)) (by simp))
theorem shap_ok {d:Nat}:∀ f,CallOK (d+1) 751 [] f (.pl SHAP) f:=Cf fn_law_shapes rfl (.inl rfl) (Ab (Ax (Ev.plDisp (xs:=SHAP) (Ah (Ev.tup2 (Ar (x:=[]) (by rfl) Zb) (Ar (x:=[]) (by rfl) Zb)) (Ah (Ev.tup2 (Ar (x:=[45]) (by rfl) Zb) (Ar (x:=[]) (by rfl) Zb)) (Ah (Ev.tup2 (Ar (x:=[]) (by rfl) Zb) (Ar (x:=[110]) (by rfl) Zb)) (Ah (Ev.tup2 (Ar (x:=[45]) (by rfl) Zb) (Ar (x:=[110]) (by rfl) Zb)) (Ah (Ev.tup2 (Ar (x:=[]) (by rfl) Zb) (Ar (x:=[106]) (by rfl) Zb)) (Ah (Ev.tup2 (Ar (x:=[45]) (by rfl) Zb) (Ar (x:=[106]) (by rfl) Zb)) (Ah (Ev.tup2 (Ar (x:=[]) (by rfl) Zb) (Ar (x:=[106,110]) (by rfl) Zb)) (Ah (Ev.tup2 (Ar (x:=[45]) (by rfl) Zb) (Ar (x:=[106,110]) (by rfl) Zb)) (Ah (Ev.tup2 (Ar (x:=[]) (by rfl) Zb) (Ar (x:=[39]) (by rfl) Zb)) (Ah (Ev.tup2 (Ar (x:=[45]) (by rfl) Zb) (Ar (x:=[39]) (by rfl) Zb)) Aq)))))))))) Zb)) (by simp))
theorem kY {d:Nat} {p:T} {offs bases:List T} (hp:p.length≤60000):∀ os:List T,(∀ o∈os,o.length≤2)→eD p os bases=none→FRun d (aE (stM 26)) "off" (cU (nthS (aG (stM 26)) 0)) (os.map SV.str) ⟨[("part",.str p),("offs",.tl offs),("bases",.tl bases)],.none⟩ .next ⟨[("part",.str p),("offs",.tl offs),("bases",.tl bases)],.none⟩
  | [],_,_=>.done
  | off::r,ho,h=>by
    have hoff:off.length≤2:=ho off List.mem_cons_self
    have hbl:(p.take (p.length - off.length)).length≤p.length:=by rw [List.length_take]; lia
    have hlim:lim=65536:=rfl
    have hcat:((p.take (p.length - off.length))++off).length≤lim:=by rw [List.length_append]; lia
    unfold eD at h
    rw [List.findSome?_cons] at h
    by_cases hc:(p.take (p.length - off.length))∈bases∧(p.take (p.length - off.length))++off=p
    · rw [if_pos hc] at h; cases h
    · rw [if_neg hc] at h
      have ih:=kY (d:=d) (offs:=offs) hp r (fun o hm=>ho o (List.mem_cons_of_mem _ hm)) h
      by_cases h1:(p.take (p.length - off.length))∈bases
      · have h2:(p.take (p.length - off.length))++off≠p:=fun q=>hc ⟨h1,q⟩
        refine' FRun.step [("part",.str p),("offs",.tl offs),("bases",.tl bases)] (Aa (Bd (v:=.str (p.take (p.length - off.length))) (loc':=[("part",.str p),("offs",.tl offs),("bases",.tl bases),("off",.str off),("base",.str (p.take (p.length - off.length)))]) (Ce (Zm dY) (Ag (Be gM (Zm dY)) (Be gM (Zm gK))) (fL hoff) hbl) dE Zn (by rfl)) (Aa (Af (Bp (Ac (Zm dE) (Zm iS) (dW (r:=true) (by simpa using h1))) (Cd (Ac (Ch (Zm dE) (Zm gK) hcat) (Zm dY) (iI h2)))) Ad) Ad)) (.inl rfl) (aD rfl (aD rfl (aD rfl aP))) ih
      · refine' FRun.step [("part",.str p),("offs",.tl offs),("bases",.tl bases)] (Aa (Bd (v:=.str (p.take (p.length - off.length))) (loc':=[("part",.str p),("offs",.tl offs),("bases",.tl bases),("off",.str off),("base",.str (p.take (p.length - off.length)))]) (Ce (Zm dY) (Ag (Be gM (Zm dY)) (Be gM (Zm gK))) (fL hoff) hbl) dE Zn (by rfl)) (Aa (Af (Cd (Ac (Zm dE) (Zm iS) (dW (r:=false) (by simpa using h1)))) Ad) Ad)) (.inl rfl) (aD rfl (aD rfl (aD rfl aP))) ih
theorem kX {d:Nat} {p b:T} {offs bases:List T} (hp:p.length≤60000):∀ os:List T,(∀ o∈os,o.length≤2)→eD p os bases=some b→∃ st',FRun d (aE (stM 26)) "off" (cU (nthS (aG (stM 26)) 0)) (os.map SV.str) ⟨[("part",.str p),("offs",.tl offs),("bases",.tl bases)],.none⟩ (.ret (.str b)) st'
  | [],_,h=>by cases h
  | off::r,ho,h=>by
    have hoff:off.length≤2:=ho off List.mem_cons_self
    have hbl:(p.take (p.length - off.length)).length≤p.length:=by rw [List.length_take]; lia
    have hlim:lim=65536:=rfl
    have hcat:((p.take (p.length - off.length))++off).length≤lim:=by rw [List.length_append]; lia
    unfold eD at h
    rw [List.findSome?_cons] at h
    by_cases hc:(p.take (p.length - off.length))∈bases∧(p.take (p.length - off.length))++off=p
    · rw [if_pos hc] at h
      cases h
      obtain ⟨h1,h2⟩:=hc
      exact ⟨_,FRun.ret (Aa (Bd (v:=.str (p.take (p.length - off.length))) (loc':=[("part",.str p),("offs",.tl offs),("bases",.tl bases),("off",.str off),("base",.str (p.take (p.length - off.length)))]) (Ce (Zm dY) (Ag (Be gM (Zm dY)) (Be gM (Zm gK))) (fL hoff) hbl) dE Zn (by rfl)) (Ab (Ak (Bp (Ac (Zm dE) (Zm iS) (dW (r:=true) (by simpa using h1))) (Bp (Ac (Ch (Zm dE) (Zm gK) hcat) (Zm dY) (kH h2)) Tst.and_nil)) (Ab (Ax (Zm dE)) (by simp))) (by simp)))⟩
    · rw [if_neg hc] at h
      obtain ⟨st',ih⟩:=kX (d:=d) (offs:=offs) hp r (fun o hm=>ho o (List.mem_cons_of_mem _ hm)) h
      refine ⟨st',?_⟩
      by_cases h1:(p.take (p.length - off.length))∈bases
      · have h2:(p.take (p.length - off.length))++off≠p:=fun q=>hc ⟨h1,q⟩
        refine' FRun.step [("part",.str p),("offs",.tl offs),("bases",.tl bases)] (Aa (Bd (v:=.str (p.take (p.length - off.length))) (loc':=[("part",.str p),("offs",.tl offs),("bases",.tl bases),("off",.str off),("base",.str (p.take (p.length - off.length)))]) (Ce (Zm dY) (Ag (Be gM (Zm dY)) (Be gM (Zm gK))) (fL hoff) hbl) dE Zn (by rfl)) (Aa (Af (Bp (Ac (Zm dE) (Zm iS) (dW (r:=true) (by simpa using h1))) (Cd (Ac (Ch (Zm dE) (Zm gK) hcat) (Zm dY) (iI h2)))) Ad) Ad)) (.inl rfl) (aD rfl (aD rfl (aD rfl aP))) ih
      · refine' FRun.step [("part",.str p),("offs",.tl offs),("bases",.tl bases)] (Aa (Bd (v:=.str (p.take (p.length - off.length))) (loc':=[("part",.str p),("offs",.tl offs),("bases",.tl bases),("off",.str off),("base",.str (p.take (p.length - off.length)))]) (Ce (Zm dY) (Ag (Be gM (Zm dY)) (Be gM (Zm gK))) (fL hoff) hbl) dE Zn (by rfl)) (Aa (Af (Cd (Ac (Zm dE) (Zm iS) (dW (r:=false) (by simpa using h1)))) Ad) Ad)) (.inl rfl) (aD rfl (aD rfl (aD rfl aP))) ih
theorem gE {d:Nat} {p:T} {offs bases:List T} (hp:p.length≤60000) (ho:∀ o∈offs,o.length≤2) (h:eD p offs bases=none):∀ f,CallOK (d+1) 759 [.str p,.tl offs,.tl bases] f .none f :=
  Cf nP rfl (.inl rfl) (Aa (Ex.forTl (Zm m26_offs) gK (kY hp offs ho h) (fun _ _=>rfl)) (Ab (Ax Ev.cnone) (by simp)))
theorem gD {d:Nat} {p b:T} {offs bases:List T} (hp:p.length≤60000) (ho:∀ o∈offs,o.length≤2) (h:eD p offs bases=some b):∀ f,CallOK (d+1) 759 [.str p,.tl offs,.tl bases] f (.str b) f:=by
  obtain ⟨st',hr⟩:=kX (d:=d) (offs:=offs) hp offs ho h
  exact Cf nP rfl (.inl rfl) (Ab (Ex.forTl (Zm m26_offs) gK hr (fun _ _=>rfl)) (by simp))
theorem jJ:(aE (stM 27)).names.lookup ("_law_digits" : Str)=some NameKind.globalImplicit:=by kernel_rfl
theorem m27_law_ends:(aE (stM 27)).names.lookup ("_law_ends" : Str)=some NameKind.globalImplicit:=by kernel_rfl
theorem jU:(aE (stM 27)).names.lookup ("end" : Str)=some NameKind.local:=by kernel_rfl
theorem dR:(aE (stM 27)).names.lookup ("found" : Str)=some NameKind.local:=by kernel_rfl
theorem fX:(aE (stM 27)).names.lookup ("last" : Str)=some NameKind.local:=by kernel_rfl
theorem dQ:(aE (stM 27)).names.lookup ("len" : Str)=some NameKind.globalImplicit:=by kernel_rfl
theorem aY:(aE (stM 27)).names.lookup ("part" : Str)=some NameKind.local:=by kernel_rfl
theorem hK:(aE (stM 27)).names.lookup ("rest" : Str)=some NameKind.local:=by kernel_rfl
theorem bO:(aE (stM 27)).names.lookup ("word" : Str)=some NameKind.local:=by kernel_rfl
noncomputable def tx (x:T):List T:=x.map fun a=>[a]
theorem tx_mem {l:List Nat} {a:Nat}:[a]∈tx l↔a∈l:=by
  unfold tx
  rw [List.mem_map]
  exact ⟨fun ⟨b,h,e⟩=>by cases e; exact h,fun h=>⟨a,h,rfl⟩⟩
theorem digs_sl:DIGL=tx DIGS:=rfl
theorem lookup_sl {l:List (Nat×Nat)} {a:Nat}:(l.map fun p=>(([p.1]:T),([p.2]:T))).lookup [a]=(l.lookup a).map fun h=>[h]:=by
  induction l with
  | nil=>rfl
  | cons p l ih =>
    obtain ⟨x,y⟩:=p
    rw [List.map_cons,List.lookup_cons,List.lookup_cons]
    by_cases h:a=x
    · subst h; simp
    · rw [show (([a]:T) == [x])=false by simpa using h,show (a == x)=false by simpa using h]
      exact ih
theorem hats_sl {a:Nat}:HATL.lookup [a]=(jD a).map fun h=>[h]:=lookup_sl (l:=HATS)
theorem accs_sl {a:Nat}:ACCL.lookup [a]=(ACCS.lookup a).map fun h=>[h]:=lookup_sl (l:=ACCS)
theorem cF (x:T):(tx x).length=x.length:=List.length_map _
theorem tx_flatten (x:T):(tx x).flatten=x:=by
  induction x with
  | nil=>rfl
  | cons a r ih=>show [a]++(tx r).flatten=_; rw [ih]; rfl
theorem tx_app (x y:T):tx (x++y)=tx x++tx y:=List.map_append
theorem tx_drop (x:T) (n:Nat):(tx x).drop n=tx (x.drop n):=List.map_drop.symm
theorem tx_nil (x:T):tx x=[]↔x=[]:=by cases x <;> simp [tx]
noncomputable def fP (r:T):T:=match r.getLast? with
  | some a=>[a]
  | none=>[]
theorem slFrom' {x:T} {i:Int} (h:0≤i):sl x i x.length=x.drop i.toNat:=by
  unfold sl
  rw [List.take_of_length_le]
  rw [List.length_drop]; lia
theorem slice_S_last {r:T}:Txt.slice (S r) (some ((r.length:Int) - 1)) none=S (fP r):=by
  cases h:r.getLast? with
  | none =>
    have e:r=[]:=List.getLast?_eq_none_iff.mp h
    subst e
    exact (by decide:Txt.slice (S []) (some ((0:Nat) - 1:Int)) none=S [])
  | some a =>
    obtain ⟨ys,rfl⟩:=List.getLast?_eq_some_iff.mp h
    rw [fU ⟨by rw [List.length_append]; simp,by lia⟩,slFrom' (by simp)]
    unfold fP
    rw [h]
    congr 1
    rw [show ((ys++[a]).length:Int) - 1=(ys.length:Int) by simp]
    simp
theorem lastT_hy {r:T}:fP r=[45]↔r.getLast?=some 45:=by
  unfold fP
  cases r.getLast? <;> simp
theorem lastT_dig {r:T}:fP r ∉ DIGL↔∀ a,r.getLast?=some a→a ∉ DIGS:=by
  unfold fP
  cases h:r.getLast? with
  | none=>exact ⟨fun _ a q=>(by cases q),fun _=>(by decide)⟩
  | some b =>
    show [b] ∉ DIGL↔_
    rw [digs_sl,tx_mem]
    exact ⟨fun q a e=>by cases e; exact q,fun q=>q b rfl⟩
theorem lastT_length (r:T):(fP r).length≤r.length:=by
  unfold fP
  cases h:r.getLast? with
  | none=>simp
  | some a =>
    obtain ⟨ys,rfl⟩:=List.getLast?_eq_some_iff.mp h
    simp
theorem fT {x y:T} {r:Bool} (h:decide (y <:+ x)=r):decide (y.length≤x.length∧x.drop (x.length - y.length)=y)=r:=by
  rw [← h]
  refine decide_eq_decide.mpr ⟨fun q=>List.suffix_iff_eq_drop.mpr q.2.symm,fun q=>⟨q.length_le,(List.suffix_iff_eq_drop.mp q).symm⟩⟩
section
variable {d:Nat} {sc:Scope} {st st₁ st₂ st₃ st':Sx} {fl:Fl}
theorem Ev.sliceFromG {e a:Expr} {p q:Pos} {x y:T} {i:Int} (he:Ev d sc e st (.str x) st₁) (ha:Ev d sc a st₁ (.int i) st₂) (h:Txt.slice (S x) (some i) none=S y) (hl:y.length≤x.length) :
    Ev d sc (.Subscript e (.Slice (some a) Option.none Option.none q) p) st (.str y) st₂:=.mk fun c imm s O R hc I=>by
  refine Subscript_ ?_
  refine he.use O R hc I fun V₁ s₁ imm₁ x₁ I₁ q₁=>wpAny_Slice (ha.use O R hc I₁ fun V₂ s₂ imm₂ x₂ I₂ q₂=>wpAny_pure (wpAny_pure ?_))
  obtain ⟨t,rfl,hx⟩:=q₁
  obtain ⟨u,rfl⟩:=q₂
  refine I₂.again fun g m mt T F N B D MO ND LO ag=>?_
  refine slice_strN_sn F N (fun h' t' k F' N'=>?_) rfl (fun r=>gV _ _ _ _) (by rw [cD]; exact Nat.le_trans hx kS)
  rw [h]
  exact ⟨imm₂,x₁.trans x₂,ag h' k F' N',.str_ _ (Nat.le_trans hl hx)⟩
theorem Exs.dropC {B:List Stmt} {k:Nat} (e:B.drop k=nthS B k::B.drop (k+1)) (h:Ex d sc (nthS B k) st .next st₁) (h':Exs d sc (B.drop (k+1)) st₁ fl st'):Exs d sc (B.drop k) st fl st':=e▸Aa h h'
theorem Exs.dropS {B:List Stmt} {k:Nat} (e:B.drop k=nthS B k::B.drop (k+1)) (h:Ex d sc (nthS B k) st fl st') (hn:fl≠.next):Exs d sc (B.drop k) st fl st':=e▸Ab h hn
end
theorem b27_1:(aG (stM 27)).drop 1=nthS (aG (stM 27)) 1::(aG (stM 27)).drop 2:=by kernel_rfl
theorem b27_2:(aG (stM 27)).drop 2=nthS (aG (stM 27)) 2::(aG (stM 27)).drop 3:=by kernel_rfl
theorem b27_3:(aG (stM 27)).drop 3=nthS (aG (stM 27)) 3::(aG (stM 27)).drop 4:=by kernel_rfl
theorem b27_4:(aG (stM 27)).drop 4=nthS (aG (stM 27)) 4::(aG (stM 27)).drop 5:=by kernel_rfl
theorem b27_5:(aG (stM 27)).drop 5=nthS (aG (stM 27)) 5::(aG (stM 27)).drop 6:=by kernel_rfl
theorem b27_6:(aG (stM 27)).drop 6=nthS (aG (stM 27)) 6::(aG (stM 27)).drop 7:=by kernel_rfl
theorem b27_7:(aG (stM 27)).drop 7=nthS (aG (stM 27)) 7::(aG (stM 27)).drop 8:=by kernel_rfl
theorem b27_8:(aG (stM 27)).drop 8=nthS (aG (stM 27)) 8::(aG (stM 27)).drop 9:=by kernel_rfl
theorem b27_9:(aG (stM 27)).drop 9=nthS (aG (stM 27)) 9::(aG (stM 27)).drop 10:=by kernel_rfl
theorem b27_10:(aG (stM 27)).drop 10=nthS (aG (stM 27)) 10::(aG (stM 27)).drop 11:=by kernel_rfl
theorem b27_11:(aG (stM 27)).drop 11=nthS (aG (stM 27)) 11::(aG (stM 27)).drop 12:=by kernel_rfl
theorem b27_12:(aG (stM 27)).drop 12=nthS (aG (stM 27)) 12::(aG (stM 27)).drop 13:=by kernel_rfl
theorem b27_13:(aG (stM 27)).drop 13=nthS (aG (stM 27)) 13::(aG (stM 27)).drop 14:=by kernel_rfl
theorem b27_14:(aG (stM 27)).drop 14=nthS (aG (stM 27)) 14::(aG (stM 27)).drop 15:=by kernel_rfl
theorem b27_15:(aG (stM 27)).drop 15=nthS (aG (stM 27)) 15::(aG (stM 27)).drop 16:=by kernel_rfl
theorem b27_16:(aG (stM 27)).drop 16=nthS (aG (stM 27)) 16::(aG (stM 27)).drop 17:=by kernel_rfl
theorem b27_17:(aG (stM 27)).drop 17=nthS (aG (stM 27)) 17::(aG (stM 27)).drop 18:=by kernel_rfl
theorem b27_18:(aG (stM 27)).drop 18=nthS (aG (stM 27)) 18::(aG (stM 27)).drop 19:=by kernel_rfl
theorem b27_19:(aG (stM 27)).drop 19=nthS (aG (stM 27)) 19::(aG (stM 27)).drop 20:=by kernel_rfl
theorem b27_20:(aG (stM 27)).drop 20=nthS (aG (stM 27)) 20::(aG (stM 27)).drop 21:=by kernel_rfl
theorem b27_21:(aG (stM 27)).drop 21=nthS (aG (stM 27)) 21::(aG (stM 27)).drop 22:=by kernel_rfl
theorem b27_22:(aG (stM 27)).drop 22=nthS (aG (stM 27)) 22::(aG (stM 27)).drop 23:=by kernel_rfl
theorem b27_23:(aG (stM 27)).drop 23=nthS (aG (stM 27)) 23::(aG (stM 27)).drop 24:=by kernel_rfl
theorem b27_24:(aG (stM 27)).drop 24=nthS (aG (stM 27)) 24::(aG (stM 27)).drop 25:=by kernel_rfl
theorem b27_25:(aG (stM 27)).drop 25=nthS (aG (stM 27)) 25::(aG (stM 27)).drop 26:=by kernel_rfl
theorem b27_26:(aG (stM 27)).drop 26=nthS (aG (stM 27)) 26::(aG (stM 27)).drop 27:=by kernel_rfl
theorem b27_27:(aG (stM 27)).drop 27=nthS (aG (stM 27)) 27::(aG (stM 27)).drop 28:=by kernel_rfl
theorem b27_28:(aG (stM 27)).drop 28=nthS (aG (stM 27)) 28::(aG (stM 27)).drop 29:=by kernel_rfl
theorem b27_29:(aG (stM 27)).drop 29=nthS (aG (stM 27)) 29::(aG (stM 27)).drop 30:=by kernel_rfl
theorem b27_30:(aG (stM 27)).drop 30=nthS (aG (stM 27)) 30::(aG (stM 27)).drop 31:=by kernel_rfl
theorem b27_31:(aG (stM 27)).drop 31=nthS (aG (stM 27)) 31::(aG (stM 27)).drop 32:=by kernel_rfl
theorem b27_32:(aG (stM 27)).drop 32=nthS (aG (stM 27)) 32::(aG (stM 27)).drop 33:=by kernel_rfl
theorem l28 {d:Nat} {f:Mu} {w fd:T} (h:fd.length≤w.length):Ex d (aE (stM 27)) (nthS (aG (stM 27)) 28) ⟨[("word",.str w),("found",.str fd)],f⟩ .next ⟨[("word",.str w),("found",.str fd),("rest",.str (w.take (w.length - fd.length)))],f⟩:=by
  have hsl:Txt.slice (S w) none (some ((w.length:Int) - fd.length))=S (w.take (w.length - fd.length)):=by
    rw [dX (by lia)]; congr 2; lia
  have hle:(w.take (w.length - fd.length)).length≤w.length:=by rw [List.length_take]; lia
  refine' (Bd (v:=.str (w.take (w.length - fd.length))) (loc':=[("word",.str w),("found",.str fd),("rest",.str (w.take (w.length - fd.length)))]) (Ce (Zm bO) (Ag (Be dQ (Zm bO)) (Be dQ (Zm dR))) hsl hle) hK Zn (by rfl))
theorem l29 {d:Nat} {f:Mu} {w fd r:T}  : Ex d (aE (stM 27)) (nthS (aG (stM 27)) 29) ⟨[("word",.str w),("found",.str fd),("rest",.str r)],f⟩ .next ⟨[("word",.str w),("found",.str fd),("rest",.str r),("last",.str (fP r))],f⟩:=by
  refine' (Bd (v:=.str (fP r)) (loc':=[("word",.str w),("found",.str fd),("rest",.str r),("last",.str (fP r))]) (Ev.sliceFromG (Zm hK) (Ag (Be dQ (Zm hK)) Ae) slice_S_last (lastT_length r)) fX Zn (by rfl))
theorem l30_no {d:Nat} {f:Mu} {w fd r:T} (h:¬ (fd∈([[110],[106],[106,110]]:List T)∧¬ (r.getLast?=some 45)∧(∀ a,r.getLast?=some a→a ∉ DIGS))):Ex (d+1) (aE (stM 27)) (nthS (aG (stM 27)) 30) ⟨[("word",.str w),("found",.str fd),("rest",.str r),("last",.str (fP r))],f⟩ .next ⟨[("word",.str w),("found",.str fd),("rest",.str r),("last",.str (fP r))],f⟩:=by
  by_cases h1:fd∈([[110],[106],[106,110]]:List T)
  · by_cases h2:fP r=[45]
    ·
      refine' (Af (Bp (Ac (Zm dR) (Bj (xs:=[[110],[106],[106,110]]) (Ah (Ar (x:=[110]) (by rfl) Zb) (Ah (Ar (x:=[106]) (by rfl) Zb) (Ah (Ar (x:=[106,110]) (by rfl) Zb) Aq))) Zb) (dW (r:=true) (by simpa using h1))) (Cd (Ac (Zm fX) (Ar (x:=[45]) (by rfl) Zb) (gR h2)))) Ad)
    · have h3:¬ (fP r ∉ DIGL):=fun q=>h ⟨h1,fun e=>h2 (lastT_hy.mpr e),lastT_dig.mp q⟩
      refine' (Af (Bp (Ac (Zm dR) (Bj (xs:=[[110],[106],[106,110]]) (Ah (Ar (x:=[110]) (by rfl) Zb) (Ah (Ar (x:=[106]) (by rfl) Zb) (Ah (Ar (x:=[106,110]) (by rfl) Zb) Aq))) Zb) (dW (r:=true) (by simpa using h1))) (Bp (Ac (Zm fX) (Ar (x:=[45]) (by rfl) Zb) (jG h2)) (Cd (Ac (Zm fX) (Ev.callF0 iU hO jJ (by decide) (digs_ok _)) (c_tl_nin (r:=false) (by simpa using h3)))))) Ad)
  ·
    refine' (Af (Cd (Ac (Zm dR) (Bj (xs:=[[110],[106],[106,110]]) (Ah (Ar (x:=[110]) (by rfl) Zb) (Ah (Ar (x:=[106]) (by rfl) Zb) (Ah (Ar (x:=[106,110]) (by rfl) Zb) Aq))) Zb) (dW (r:=false) (by simpa using h1)))) Ad)
theorem l30_yes {d:Nat} {f:Mu} {w fd r:T} (h:fd∈([[110],[106],[106,110]]:List T)∧¬ (r.getLast?=some 45)∧(∀ a,r.getLast?=some a→a ∉ DIGS)):Ex (d+1) (aE (stM 27)) (nthS (aG (stM 27)) 30) ⟨[("word",.str w),("found",.str fd),("rest",.str r),("last",.str (fP r))],f⟩ (.ret (.str w)) ⟨[("word",.str w),("found",.str fd),("rest",.str r),("last",.str (fP r))],f⟩:=by
  obtain ⟨h1,h2,h3⟩:=h
  have h2':fP r≠[45]:=fun q=>h2 (lastT_hy.mp q)
  have h3':=lastT_dig.mpr h3
  refine' (Ak (Bp (Ac (Zm dR) (Bj (xs:=[[110],[106],[106,110]]) (Ah (Ar (x:=[110]) (by rfl) Zb) (Ah (Ar (x:=[106]) (by rfl) Zb) (Ah (Ar (x:=[106,110]) (by rfl) Zb) Aq))) Zb) (dW (r:=true) (by simpa using h1))) (Bp (Ac (Zm fX) (Ar (x:=[45]) (by rfl) Zb) (jG h2')) (Bp (Ac (Zm fX) (Ev.callF0 iU hO jJ (by decide) (digs_ok _)) (c_tl_nin (r:=true) (by simpa using h3'))) Tst.and_nil))) (Ab (Ax (Zm bO)) (by simp)))
theorem l31 {d:Nat} {f:Mu} {w fd r:T}  : Ex d (aE (stM 27)) (nthS (aG (stM 27)) 31) ⟨[("word",.str w),("found",.str fd),("rest",.str r),("last",.str (fP r))],f⟩ .next ⟨[("word",.str w),("found",.str fd),("rest",.str (if r.getLast?=some 45 then r.dropLast else r)),("last",.str (fP r))],f⟩:=by
  by_cases h:r.getLast?=some 45
  · rw [if_pos h]
    have h2:fP r=[45]:=lastT_hy.mpr h
    have hsl:Txt.slice (S r) none (some ((r.length:Int) - 1))=S r.dropLast:=by
      obtain ⟨ys,rfl⟩:=List.getLast?_eq_some_iff.mp h
      rw [dX (by rw [List.length_append]; simp),List.dropLast_eq_take]
      congr 2
      simp
    have hle:r.dropLast.length≤r.length:=by simp
    refine' (Ak (Ac (Zm fX) (Ar (x:=[45]) (by rfl) Zb) (kH h2)) (Aa (Bd (v:=.str r.dropLast) (loc':=[("word",.str w),("found",.str fd),("rest",.str r.dropLast),("last",.str (fP r))]) (Ce (Zm hK) (Ag (Be dQ (Zm hK)) Ae) hsl hle) hK Zn (by rfl)) Ad))
  · rw [if_neg h]
    have h2:fP r≠[45]:=fun q=>h (lastT_hy.mp q)
    refine' (Af (Ac (Zm fX) (Ar (x:=[45]) (by rfl) Zb) (iI h2)) Ad)
theorem l32 {d:Nat} {f:Mu} {w fd r z:T}  : Ex d (aE (stM 27)) (nthS (aG (stM 27)) 32) ⟨[("word",.str w),("found",.str fd),("rest",.str r),("last",.str z)],f⟩ (.ret (.str r)) ⟨[("word",.str w),("found",.str fd),("rest",.str r),("last",.str z)],f⟩:=by
  refine' (Ax (Zm hK))
noncomputable def cut2 (w fd:T):T :=
  if fd∈([[110],[106],[106,110]]:List T)∧¬ ((w.take (w.length - fd.length)).getLast?=some 45)∧(∀ a,(w.take (w.length - fd.length)).getLast?=some a→a ∉ DIGS) then w else
  if (w.take (w.length - fd.length)).getLast?=some 45 then (w.take (w.length - fd.length)).dropLast else (w.take (w.length - fd.length))
theorem t28 {d:Nat} {f:Mu} {w fd:T} (h:fd.length≤w.length):∃ st',Exs (d+1) (aE (stM 27)) ((aG (stM 27)).drop 28) ⟨[("word",.str w),("found",.str fd)],f⟩ (.ret (.str (cut2 w fd))) st':=by
  unfold cut2
  by_cases hc:fd∈([[110],[106],[106,110]]:List T)∧¬ ((w.take (w.length - fd.length)).getLast?=some 45)∧(∀ a,(w.take (w.length - fd.length)).getLast?=some a→a ∉ DIGS)
  · rw [if_pos hc]
    exact ⟨_,Exs.dropC b27_28 (l28 h) (Exs.dropC b27_29 l29 (Exs.dropS b27_30 (l30_yes hc) (by simp)))⟩
  · rw [if_neg hc]
    exact ⟨_,Exs.dropC b27_28 (l28 h) (Exs.dropC b27_29 l29 (Exs.dropC b27_30 (l30_no hc) (Exs.dropC b27_31 l31 (Exs.dropS b27_32 l32 (by simp)))))⟩
theorem l25 {d:Nat} {f:Mu} {w p:T}  : Ex d (aE (stM 27)) (nthS (aG (stM 27)) 25) ⟨[("word",.str w),("part",.str p)],f⟩ .next ⟨[("word",.str w),("part",.str p),("found",.str ([]:T))],f⟩:=by
  refine' (Bd (v:=.str []) (loc':=[("word",.str w),("part",.str p),("found",.str [])]) (Ar (x:=[]) (by rfl) Zb) dR Zn (by rfl))
theorem l26_run {d:Nat} {f:Mu} {w p:T}:∀ (es:List T) (fd:T),FRun d (aE (stM 27)) "end" (cU (nthS (aG (stM 27)) 26)) (es.map SV.str) ⟨[("word",.str w),("part",.str p),("found",.str fd)],f⟩ .next ⟨[("word",.str w),("part",.str p),("found",.str (es.foldl (fun f e=>if e <:+ p∧f.length < e.length then e else f) fd))],f⟩
  | [],fd=>.done
  | e::r,fd=>by
    rw [List.foldl_cons]
    by_cases h1:e <:+ p
    · by_cases h2:fd.length < e.length
      · rw [if_pos ⟨h1,h2⟩]
        refine' FRun.step [("word",.str w),("part",.str p),("found",.str e)] (Aa (Ak (Bp (Ai (Ev.ends (Zm aY) (Zm jU) (fT (decide_eq_true h1)) (fun _=>⟨_,rfl⟩)) Zn) (Bp (Ac (Be dQ (Zm jU)) (Be dQ (Zm dR)) (eC (by lia))) Tst.and_nil)) (Aa (Bd (v:=.str e) (loc':=[("word",.str w),("part",.str p),("found",.str e),("end",.str e)]) (Zm jU) dR Zn (by rfl)) Ad)) Ad) (.inl rfl) (aD rfl (aD rfl (aD rfl aP))) (l26_run r e)
      · rw [if_neg (fun q=>h2 q.2)]
        refine' FRun.step [("word",.str w),("part",.str p),("found",.str fd)] (Aa (Af (Bp (Ai (Ev.ends (Zm aY) (Zm jU) (fT (decide_eq_true h1)) (fun _=>⟨_,rfl⟩)) Zn) (Cd (Ac (Be dQ (Zm jU)) (Be dQ (Zm dR)) (dT (by lia))))) Ad) Ad) (.inl rfl) (aD rfl (aD rfl (aD rfl aP))) (l26_run r fd)
    · rw [if_neg (fun q=>h1 q.1)]
      refine' FRun.step [("word",.str w),("part",.str p),("found",.str fd)] (Aa (Af (Cd (Ai (Ev.ends (Zm aY) (Zm jU) (fT (decide_eq_false h1)) (fun _=>⟨_,rfl⟩)) Zn)) Ad) Ad) (.inl rfl) (aD rfl (aD rfl (aD rfl aP))) (l26_run r fd)
theorem l26 {d:Nat} {f:Mu} {w p:T}:Ex d (aE (stM 27)) (nthS (aG (stM 27)) 26) ⟨[("word",.str w),("part",.str p),("found",.str ([]:T))],f⟩ .next ⟨[("word",.str w),("part",.str p),("found",.str (cT p))],f⟩:=by
  refine' Ex.forTl (Bw g_law_ends v_law_ends m27_law_ends (by decide)) jU (l26_run ENDS []) (fun _ _=>rfl)
theorem l27_yes {d:Nat} {f:Mu} {w p fd:T} (h:fd=[]):Ex d (aE (stM 27)) (nthS (aG (stM 27)) 27) ⟨[("word",.str w),("part",.str p),("found",.str fd)],f⟩ (.ret (.str w)) ⟨[("word",.str w),("part",.str p),("found",.str fd)],f⟩:=by
  refine' (Ak (Ac (Zm dR) (Ar (x:=[]) (by rfl) Zb) (kH h)) (Ab (Ax (Zm bO)) (by simp)))
theorem l27_no {d:Nat} {f:Mu} {w p fd:T} (h:fd≠[]):Ex d (aE (stM 27)) (nthS (aG (stM 27)) 27) ⟨[("word",.str w),("part",.str p),("found",.str fd)],f⟩ .next ⟨[("word",.str w),("part",.str p),("found",.str fd)],f⟩:=by
  refine' (Af (Ac (Zm dR) (Ar (x:=[]) (by rfl) Zb) (iI h)) Ad)
theorem t25 {d:Nat} {f:Mu} {w p:T} (hp:p.length≤w.length):∃ st',Exs (d+1) (aE (stM 27)) ((aG (stM 27)).drop 25) ⟨[("word",.str w),("part",.str p)],f⟩ (.ret (.str (cutEnd w p))) st':=by
  unfold cutEnd
  by_cases h0:cT p=[]
  · rw [if_pos h0]
    exact ⟨_,Exs.dropC b27_25 l25 (Exs.dropC b27_26 l26 (Exs.dropS b27_27 (l27_yes h0) (by simp)))⟩
  · rw [if_neg h0]
    have hl:(cT p).length≤w.length:=by
      rcases (jC (p:=p) ENDS [] (.inl rfl)).1 with q | q
      · exact (h0 q).elim
      · exact Nat.le_trans (List.IsSuffix.length_le (show cT p <:+ p from q)) hp
    obtain ⟨st',h⟩:=t28 (d:=d) (f:=f) hl
    exact ⟨st',Exs.dropC b27_25 l25 (Exs.dropC b27_26 l26 (Exs.dropC b27_27 (l27_no h0) (Exs.weak (l:=[("word",.str w),("found",.str (cT p))]) (aD rfl (aD rfl aP)) h)))⟩
noncomputable abbrev Bf:=@Exs.dropC
theorem cV:(aE (stM 27)).names.lookup ("_law_bare" : Str)=some NameKind.globalImplicit:=by kernel_rfl
theorem iD:(aE (stM 27)).names.lookup ("_law_numerals" : Str)=some NameKind.globalImplicit:=by kernel_rfl
theorem lY:(aE (stM 27)).names.lookup ("_law_ones" : Str)=some NameKind.globalImplicit:=by kernel_rfl
theorem kP:(aE (stM 27)).names.lookup ("_law_stays" : Str)=some NameKind.globalImplicit:=by kernel_rfl
theorem kN:(aE (stM 27)).names.lookup ("_law_where" : Str)=some NameKind.globalImplicit:=by kernel_rfl
theorem kM:(aE (stM 27)).names.lookup ("_law_which" : Str)=some NameKind.globalImplicit:=by kernel_rfl
theorem bX:(aE (stM 27)).names.lookup ("base" : Str)=some NameKind.local:=by kernel_rfl
theorem lM:(aE (stM 27)).names.lookup ("digits" : Str)=some NameKind.local:=by kernel_rfl
theorem fY:(aE (stM 27)).names.lookup ("head" : Str)=some NameKind.local:=by kernel_rfl
theorem fO:(aE (stM 27)).names.lookup ("numeral" : Str)=some NameKind.local:=by kernel_rfl
theorem fB:(aE (stM 27)).names.lookup ("place" : Str)=some NameKind.local:=by kernel_rfl
theorem gU:(aE (stM 27)).names.lookup ("vowels" : Str)=some NameKind.local:=by kernel_rfl
theorem mK {d:Nat} {sc cs:Scope} {st:Sx} {p1 p2 p3 p4 p5:Pos} {f:Str} {fa:Addr} {L:List Nat} (hf:∀ P:Params,nsIn (Mine.KK P) mainGlobals f=some (some (.ref fa))) (hkp:∀ P:Params,keepIn (Mine.KK P) (.ref fa)=true) (hd:(f == ("__debug__" : Str))=false)
    (hc:∀ g,CallOK d fa [] g (.tl (tx L)) g) (h1:cs.names.lookup ("sign" : Str)=some .local) (h2:cs.names.lookup f=some .globalImplicit):∀ w:T,
    CRun d sc cs "sign" [.Compare (.Name "sign" p2) [.In] [.Call (.Name f p3) [] [] p4] p5] (.Name "sign" p1) st (w.map fun ch=>SV.str [ch]) (tx (w.filter fun a=>decide (a∈L)))
  | []=>.done
  | a::r=>by
    have ih:=mK (d:=d) (sc:=sc) (st:=st) (p1:=p1) (p2:=p2) (p3:=p3) (p4:=p4) (p5:=p5) hf hkp hd hc h1 h2 r
    rw [List.filter_cons]
    by_cases h:a∈L
    · rw [if_pos (by simpa using h)]
      exact .yes (.one (TstK.cmp (EvK.var h1 (by decide)) (EvK.callF0 hf hkp h2 hd hc) (dW (by simpa [tx_mem] using h)))) (EvK.var h1 (by decide)) ih
    · rw [if_neg (by simpa using h)]
      exact .no (.one (TstK.cmp (EvK.var h1 (by decide)) (EvK.callF0 hf hkp h2 hd hc) (dW (by simpa [tx_mem] using h)))) ih
theorem acc_run {d:Nat} {sc cs:Scope} {st:Sx} {p1 p2 p3 p4 p5 p6 p7 p8 p9 p10:Pos} (h1:cs.names.lookup ("sign" : Str)=some .local) (h2:cs.names.lookup ("_law_accents" : Str)=some .globalImplicit):∀ w:T,
    CRun (d+1) sc cs "sign" [] (.IfExp (.Compare (.Name "sign" p1) [.In] [.Call (.Name "_law_accents" p2) [] [] p3] p4) (.Subscript (.Call (.Name "_law_accents" p5) [] [] p6) (.Name "sign" p7) p8) (.Name "sign" p9) p10) st (w.map fun ch=>SV.str [ch]) (tx (w.map cE))
  | []=>.done
  | a::r=>by
    refine .yes .nil ?_ (acc_run h1 h2 r)
    have hv:EvK (d+1) sc cs "sign" (.str [a]) (.Call (.Name "_law_accents" p2) [] [] p3) st (.dct ACCL) st:=EvK.callF0 kU jK h2 (by decide) accs_ok
    cases h:ACCS.lookup a with
    | none =>
      have e:cE a=a:=by unfold cE; rw [h]; rfl
      rw [e]
      exact EvK.ifF (TstK.cmp (EvK.var h1 (by decide)) hv (mL (by rw [accs_sl,h]; rfl))) (EvK.var h1 (by decide))
    | some b =>
      have e:cE a=b:=by unfold cE; rw [h]; rfl
      rw [e]
      exact EvK.ifT (TstK.cmp (EvK.var h1 (by decide)) hv (mL (by rw [accs_sl,h]; rfl))) (EvK.dctIdx (EvK.callF0 kU jK h2 (by decide) accs_ok) (EvK.var h1 (by decide)) (by rw [accs_sl,h]; rfl))
theorem tx_map (x:T):(tx x).map SV.str=x.map fun a=>SV.str [a]:=by unfold tx; rw [List.map_map]; rfl
theorem l21 {d:Nat} {f:Mu} {h p:T} {pl:Int} (hb:(h++p).length≤60000):Ex (d+1) (aE (stM 27)) (nthS (aG (stM 27)) 21) ⟨[("place",.int pl),("head",.str h),("part",.str p)],f⟩ .next ⟨[("place",.int pl),("head",.str h),("part",.str p),("word",.str (h++p))],f⟩:=by
  have hlim:lim=65536:=rfl
  refine' (Bd (v:=.str (h++p)) (loc':=[("place",.int pl),("head",.str h),("part",.str p),("word",.str (h++p))]) (Ch (Zm fY) (Zm aY) (by lia)) bO Zn (by rfl))
theorem l22 {d:Nat} {f:Mu} {h p w:T} {pl:Int} (hb:w.length≤60000):Ex (d+1) (aE (stM 27)) (nthS (aG (stM 27)) 22) ⟨[("place",.int pl),("head",.str h),("part",.str p),("word",.str w)],f⟩ .next ⟨[("place",.int pl),("head",.str h),("part",.str p),("word",.str w),("vowels",.tl (tx (w.filter fun a=>decide (a∈VOWS))))],f⟩:=by
  refine' (Bv ⟨[("place",.int pl),("head",.str h),("part",.str p),("word",.str w),("vowels",.tl (tx (w.filter fun a=>decide (a∈VOWS))))],f⟩ (Ex.setComp (by kernel_rfl) (by kernel_rfl) (by kernel_rfl) (by kernel_rfl) (by kernel_rfl) (Zm bO) (by rw [List.length_map]; lia) (mK g_law_vowels kp_law_vowels (by decide) vows_ok (by kernel_rfl) (by kernel_rfl) w) itok_str gU (fun _ _=>rfl) (by kernel_rfl) (by kernel_rfl)) (by rfl))
theorem l23 {d:Nat} {f:Mu} {h p w:T} {pl:Int} (hb:w.length≤60000):Ex (d+1) (aE (stM 27)) (nthS (aG (stM 27)) 23) ⟨[("place",.int pl),("head",.str h),("part",.str p),("word",.str w),("vowels",.tl (tx (w.filter fun a=>decide (a∈VOWS))))],f⟩ .next ⟨[("place",.int pl),("head",.str h),("part",.str p),("word",.str w),("vowels",.tl (tx (w.filter fun a=>decide (a∈VOWS)))),("digits",.tl (tx (w.filter fun a=>decide (a∈DIGS))))],f⟩:=by
  refine' (Bv ⟨[("place",.int pl),("head",.str h),("part",.str p),("word",.str w),("vowels",.tl (tx (w.filter fun a=>decide (a∈VOWS)))),("digits",.tl (tx (w.filter fun a=>decide (a∈DIGS))))],f⟩ (Ex.setComp (by kernel_rfl) (by kernel_rfl) (by kernel_rfl) (by kernel_rfl) (by kernel_rfl) (Zm bO) (by rw [List.length_map]; lia) (mK iU hO (by decide) digs_ok (by kernel_rfl) (by kernel_rfl) w) itok_str lM (fun _ _=>rfl) (by kernel_rfl) (by kernel_rfl)) (by rfl))
theorem l24_yes {d:Nat} {f:Mu} {h p w:T} {pl:Nat} (hb:w.length≤60000) (hc:cnt VOWS w < 2∧pl < 2∧cnt DIGS w=0):Ex (d+1) (aE (stM 27)) (nthS (aG (stM 27)) 24) ⟨[("place",.int pl),("head",.str h),("part",.str p),("word",.str w),("vowels",.tl (tx (w.filter fun a=>decide (a∈VOWS)))),("digits",.tl (tx (w.filter fun a=>decide (a∈DIGS))))],f⟩ (.ret (.str w)) ⟨[("place",.int pl),("head",.str h),("part",.str p),("word",.str w),("vowels",.tl (tx (w.filter fun a=>decide (a∈VOWS)))),("digits",.tl (tx (w.filter fun a=>decide (a∈DIGS))))],f⟩:=by
  have e1:(tx (w.filter fun a=>decide (a∈VOWS))).length=cnt VOWS w:=by rw [cF]; rfl
  have e2:(tx (w.filter fun a=>decide (a∈DIGS))).length=cnt DIGS w:=by rw [cF]; rfl
  have e3:(tx (w.filter fun a=>decide (a∈VOWS))).length≤w.length:=by rw [cF]; exact List.length_filter_le _ _
  have e4:tx (w.filter fun a=>decide (a∈DIGS))=[]:=List.length_eq_zero_iff.mp (by lia)
  refine' (Ak (Bp (Ac (Ev.lenTl dQ (Zm gU) (by lia)) Ae (eR (by lia))) (Bp (Ac (Zm fB) Ae (eR (by lia))) (Bp (Tst.cmpR (Zm lM) (Bj (xs:=[]) Aq Zb) (cr_tl_eq (r:=true) (by simpa using e4))) Tst.and_nil))) (Ab (Ax (Zm bO)) (by simp)))
theorem l24_no {d:Nat} {f:Mu} {h p w:T} {pl:Nat} (hb:w.length≤60000) (hc:¬ (cnt VOWS w < 2∧pl < 2∧cnt DIGS w=0)):Ex (d+1) (aE (stM 27)) (nthS (aG (stM 27)) 24) ⟨[("place",.int pl),("head",.str h),("part",.str p),("word",.str w),("vowels",.tl (tx (w.filter fun a=>decide (a∈VOWS)))),("digits",.tl (tx (w.filter fun a=>decide (a∈DIGS))))],f⟩ .next ⟨[("place",.int pl),("head",.str h),("part",.str p),("word",.str w),("vowels",.tl (tx (w.filter fun a=>decide (a∈VOWS)))),("digits",.tl (tx (w.filter fun a=>decide (a∈DIGS))))],f⟩:=by
  have e1:(tx (w.filter fun a=>decide (a∈VOWS))).length=cnt VOWS w:=by rw [cF]; rfl
  have e2:(tx (w.filter fun a=>decide (a∈DIGS))).length=cnt DIGS w:=by rw [cF]; rfl
  have e3:(tx (w.filter fun a=>decide (a∈VOWS))).length≤w.length:=by rw [cF]; exact List.length_filter_le _ _
  by_cases h1:cnt VOWS w < 2
  · by_cases h2:pl < 2
    · have e4:tx (w.filter fun a=>decide (a∈DIGS))≠[]:=fun q=>hc ⟨h1,h2,by rw [← e2,q]; rfl⟩
      refine' (Af (Bp (Ac (Ev.lenTl dQ (Zm gU) (by lia)) Ae (eR (by lia))) (Bp (Ac (Zm fB) Ae (eR (by lia))) (Cd (Tst.cmpR (Zm lM) (Bj (xs:=[]) Aq Zb) (cr_tl_eq (r:=false) (by simpa using e4)))))) Ad)
    ·
      refine' (Af (Bp (Ac (Ev.lenTl dQ (Zm gU) (by lia)) Ae (eR (by lia))) (Cd (Ac (Zm fB) Ae (fQ (by lia))))) Ad)
  ·
    refine' (Af (Cd (Ac (Ev.lenTl dQ (Zm gU) (by lia)) Ae (fQ (by lia)))) Ad)
theorem t21 {d:Nat} {f:Mu} {h p:T} {pl:Nat} (hb:(h++p).length≤60000):∃ st',Exs (d+1) (aE (stM 27)) ((aG (stM 27)).drop 21) ⟨[("place",.int pl),("head",.str h),("part",.str p)],f⟩ (.ret (.str (lawC pl (h++p) p))) st':=by
  unfold lawC
  by_cases hc:cnt VOWS (h++p) < 2∧pl < 2∧cnt DIGS (h++p)=0
  · rw [if_pos hc]
    exact ⟨_,Bf b27_21 (l21 hb) (Bf b27_22 (l22 hb) (Bf b27_23 (l23 hb) (Exs.dropS b27_24 (l24_yes hb hc) (by simp))))⟩
  · rw [if_neg hc]
    obtain ⟨st',hr⟩:=t25 (d:=d) (f:=f) (w:=h++p) (p:=p) (by rw [List.length_append]; lia)
    exact ⟨st',Bf b27_21 (l21 hb) (Bf b27_22 (l22 hb) (Bf b27_23 (l23 hb) (Bf b27_24 (l24_no hb hc) (Exs.weak (l:=[("word",.str (h++p)),("part",.str p)]) (aD rfl (aD rfl aP)) hr))))⟩
theorem l13_some {d:Nat} {f:Mu} {h p b:T} {pl:Int} (hp:p.length≤60000) (hb:eD p [[],[110]] kE=some b):Ex (d+1) (aE (stM 27)) (nthS (aG (stM 27)) 13) ⟨[("place",.int pl),("head",.str h),("part",.str p)],f⟩ .next ⟨[("place",.int pl),("head",.str h),("part",.str p),("base",.str b)],f⟩:=by
  refine' (Bd (v:=.str b) (loc':=[("place",.int pl),("head",.str h),("part",.str p),("base",.str b)]) (Ev.callF eL dS cV (by decide) (Ah (Zm aY) (Ah (Bj (xs:=[[],[110]]) (Ah (Ar (x:=[]) (by rfl) Zb) (Ah (Ar (x:=[110]) (by rfl) Zb) Aq)) Zb) (Ah (Bw kA jN kN (by decide)) Aq))) (gD hp (by decide) hb _)) bX Zn (by rfl))
theorem l14_ret {d:Nat} {f:Mu} {h p b:T} {pl:Int} (hl:(h++b).length≤lim):Ex (d+1) (aE (stM 27)) (nthS (aG (stM 27)) 14) ⟨[("place",.int pl),("head",.str h),("part",.str p),("base",.str b)],f⟩ (.ret (.str (h++b))) ⟨[("place",.int pl),("head",.str h),("part",.str p),("base",.str b)],f⟩:=by
  refine' (Ak (Ac (Zm bX) Ev.cnone hZ) (Ab (Ax (Ch (Zm fY) (Zm bX) hl)) (by simp)))
theorem l13_none {d:Nat} {f:Mu} {h p:T} {pl:Int} (hp:p.length≤60000) (hb:eD p [[],[110]] kE=none):Ex (d+1) (aE (stM 27)) (nthS (aG (stM 27)) 13) ⟨[("place",.int pl),("head",.str h),("part",.str p)],f⟩ .next ⟨[("place",.int pl),("head",.str h),("part",.str p),("base",.none)],f⟩:=by
  refine' (Bd (v:=.none) (loc':=[("place",.int pl),("head",.str h),("part",.str p),("base",.none)]) (Ev.callF eL dS cV (by decide) (Ah (Zm aY) (Ah (Bj (xs:=[[],[110]]) (Ah (Ar (x:=[]) (by rfl) Zb) (Ah (Ar (x:=[110]) (by rfl) Zb) Aq)) Zb) (Ah (Bw kA jN kN (by decide)) Aq))) (gE hp (by decide) hb _)) bX Zn (by rfl))
theorem l14_go {d:Nat} {f:Mu} {h p:T} {pl:Int}  : Ex (d+1) (aE (stM 27)) (nthS (aG (stM 27)) 14) ⟨[("place",.int pl),("head",.str h),("part",.str p),("base",.none)],f⟩ .next ⟨[("place",.int pl),("head",.str h),("part",.str p)],f⟩:=by
  refine' (Bz _ (Af (Ac (Zm bX) Ev.cnone gA) Ad) (aD rfl (aD rfl (aD rfl aP))) rfl)
theorem l15_some {d:Nat} {f:Mu} {h p b:T} {pl:Int} (hp:p.length≤60000) (hb:eD p [[],[110],[106],[106,110]] lD=some b):Ex (d+1) (aE (stM 27)) (nthS (aG (stM 27)) 15) ⟨[("place",.int pl),("head",.str h),("part",.str p)],f⟩ .next ⟨[("place",.int pl),("head",.str h),("part",.str p),("base",.str b)],f⟩:=by
  refine' (Bd (v:=.str b) (loc':=[("place",.int pl),("head",.str h),("part",.str p),("base",.str b)]) (Ev.callF eL dS cV (by decide) (Ah (Zm aY) (Ah (Bj (xs:=[[],[110],[106],[106,110]]) (Ah (Ar (x:=[]) (by rfl) Zb) (Ah (Ar (x:=[110]) (by rfl) Zb) (Ah (Ar (x:=[106]) (by rfl) Zb) (Ah (Ar (x:=[106,110]) (by rfl) Zb) Aq)))) Zb) (Ah (Bw jZ jM kM (by decide)) Aq))) (gD hp (by decide) hb _)) bX Zn (by rfl))
theorem l16_ret {d:Nat} {f:Mu} {h p b:T} {pl:Int} (hl:(h++b).length≤lim):Ex (d+1) (aE (stM 27)) (nthS (aG (stM 27)) 16) ⟨[("place",.int pl),("head",.str h),("part",.str p),("base",.str b)],f⟩ (.ret (.str (h++b))) ⟨[("place",.int pl),("head",.str h),("part",.str p),("base",.str b)],f⟩:=by
  refine' (Ak (Ac (Zm bX) Ev.cnone hZ) (Ab (Ax (Ch (Zm fY) (Zm bX) hl)) (by simp)))
theorem l15_none {d:Nat} {f:Mu} {h p:T} {pl:Int} (hp:p.length≤60000) (hb:eD p [[],[110],[106],[106,110]] lD=none):Ex (d+1) (aE (stM 27)) (nthS (aG (stM 27)) 15) ⟨[("place",.int pl),("head",.str h),("part",.str p)],f⟩ .next ⟨[("place",.int pl),("head",.str h),("part",.str p),("base",.none)],f⟩:=by
  refine' (Bd (v:=.none) (loc':=[("place",.int pl),("head",.str h),("part",.str p),("base",.none)]) (Ev.callF eL dS cV (by decide) (Ah (Zm aY) (Ah (Bj (xs:=[[],[110],[106],[106,110]]) (Ah (Ar (x:=[]) (by rfl) Zb) (Ah (Ar (x:=[110]) (by rfl) Zb) (Ah (Ar (x:=[106]) (by rfl) Zb) (Ah (Ar (x:=[106,110]) (by rfl) Zb) Aq)))) Zb) (Ah (Bw jZ jM kM (by decide)) Aq))) (gE hp (by decide) hb _)) bX Zn (by rfl))
theorem l16_go {d:Nat} {f:Mu} {h p:T} {pl:Int}  : Ex (d+1) (aE (stM 27)) (nthS (aG (stM 27)) 16) ⟨[("place",.int pl),("head",.str h),("part",.str p),("base",.none)],f⟩ .next ⟨[("place",.int pl),("head",.str h),("part",.str p)],f⟩:=by
  refine' (Bz _ (Af (Ac (Zm bX) Ev.cnone gA) Ad) (aD rfl (aD rfl (aD rfl aP))) rfl)
theorem l19_some {d:Nat} {f:Mu} {h p b:T} {pl:Int} (hp:p.length≤60000) (hb:eD p [[],[110],[106],[106,110]] ONES=some b):Ex (d+1) (aE (stM 27)) (nthS (aG (stM 27)) 19) ⟨[("place",.int pl),("head",.str h),("part",.str p)],f⟩ .next ⟨[("place",.int pl),("head",.str h),("part",.str p),("base",.str b)],f⟩:=by
  refine' (Bd (v:=.str b) (loc':=[("place",.int pl),("head",.str h),("part",.str p),("base",.str b)]) (Ev.callF eL dS cV (by decide) (Ah (Zm aY) (Ah (Bj (xs:=[[],[110],[106],[106,110]]) (Ah (Ar (x:=[]) (by rfl) Zb) (Ah (Ar (x:=[110]) (by rfl) Zb) (Ah (Ar (x:=[106]) (by rfl) Zb) (Ah (Ar (x:=[106,110]) (by rfl) Zb) Aq)))) Zb) (Ah (Bw lP lG lY (by decide)) Aq))) (gD hp (by decide) hb _)) bX Zn (by rfl))
theorem l20_ret {d:Nat} {f:Mu} {h p b:T} {pl:Int} (hl:(h++b).length≤lim):Ex (d+1) (aE (stM 27)) (nthS (aG (stM 27)) 20) ⟨[("place",.int pl),("head",.str h),("part",.str p),("base",.str b)],f⟩ (.ret (.str (h++b))) ⟨[("place",.int pl),("head",.str h),("part",.str p),("base",.str b)],f⟩:=by
  refine' (Ak (Ac (Zm bX) Ev.cnone hZ) (Ab (Ax (Ch (Zm fY) (Zm bX) hl)) (by simp)))
theorem l19_none {d:Nat} {f:Mu} {h p:T} {pl:Int} (hp:p.length≤60000) (hb:eD p [[],[110],[106],[106,110]] ONES=none):Ex (d+1) (aE (stM 27)) (nthS (aG (stM 27)) 19) ⟨[("place",.int pl),("head",.str h),("part",.str p)],f⟩ .next ⟨[("place",.int pl),("head",.str h),("part",.str p),("base",.none)],f⟩:=by
  refine' (Bd (v:=.none) (loc':=[("place",.int pl),("head",.str h),("part",.str p),("base",.none)]) (Ev.callF eL dS cV (by decide) (Ah (Zm aY) (Ah (Bj (xs:=[[],[110],[106],[106,110]]) (Ah (Ar (x:=[]) (by rfl) Zb) (Ah (Ar (x:=[110]) (by rfl) Zb) (Ah (Ar (x:=[106]) (by rfl) Zb) (Ah (Ar (x:=[106,110]) (by rfl) Zb) Aq)))) Zb) (Ah (Bw lP lG lY (by decide)) Aq))) (gE hp (by decide) hb _)) bX Zn (by rfl))
theorem l20_go {d:Nat} {f:Mu} {h p:T} {pl:Int}  : Ex (d+1) (aE (stM 27)) (nthS (aG (stM 27)) 20) ⟨[("place",.int pl),("head",.str h),("part",.str p),("base",.none)],f⟩ .next ⟨[("place",.int pl),("head",.str h),("part",.str p)],f⟩:=by
  refine' (Bz _ (Af (Ac (Zm bX) Ev.cnone gA) Ad) (aD rfl (aD rfl (aD rfl aP))) rfl)
theorem l17_yes {d:Nat} {f:Mu} {h p:T} {pl:Int} (hm:p∈STAY) (hl:(h++p).length≤lim):Ex (d+1) (aE (stM 27)) (nthS (aG (stM 27)) 17) ⟨[("place",.int pl),("head",.str h),("part",.str p)],f⟩ (.ret (.str (h++p))) ⟨[("place",.int pl),("head",.str h),("part",.str p)],f⟩:=by
  refine' (Ak (Ac (Zm aY) (Bw kC jP kP (by decide)) (dW (r:=true) (by simpa using hm))) (Ab (Ax (Ch (Zm fY) (Zm aY) hl)) (by simp)))
theorem l17_no {d:Nat} {f:Mu} {h p:T} {pl:Int} (hm:p ∉ STAY):Ex (d+1) (aE (stM 27)) (nthS (aG (stM 27)) 17) ⟨[("place",.int pl),("head",.str h),("part",.str p)],f⟩ .next ⟨[("place",.int pl),("head",.str h),("part",.str p)],f⟩:=by
  refine' (Af (Ac (Zm aY) (Bw kC jP kP (by decide)) (dW (r:=false) (by simpa using hm))) Ad)
theorem l18_nrun {d:Nat} {f:Mu} {h p:T} {pl:Int}:∀ es:List T,(∀ u∈es,¬ u <:+ p)→FRun d (aE (stM 27)) "numeral" (cU (nthS (aG (stM 27)) 18)) (es.map SV.str) ⟨[("place",.int pl),("head",.str h),("part",.str p)],f⟩ .next ⟨[("place",.int pl),("head",.str h),("part",.str p)],f⟩
  | [],_=>.done
  | u::r,hn=>by
    have h1:=hn u List.mem_cons_self
    refine' FRun.step [("place",.int pl),("head",.str h),("part",.str p)] (Aa (Af (Ai (Ev.ends (Zm aY) (Zm fO) (fT (decide_eq_false h1)) (fun _=>⟨_,rfl⟩)) Zn) Ad) Ad) (.inl rfl) (aD rfl (aD rfl (aD rfl aP))) (l18_nrun r fun v hv=>hn v (List.mem_cons_of_mem _ hv))
theorem l18_yrun {d:Nat} {f:Mu} {h p:T} {pl:Int} (hl:(h++p).length≤lim):∀ es:List T,(∃ u∈es,u <:+ p)→∃ st',FRun d (aE (stM 27)) "numeral" (cU (nthS (aG (stM 27)) 18)) (es.map SV.str) ⟨[("place",.int pl),("head",.str h),("part",.str p)],f⟩ (.ret (.str (h++p))) st'
  | [],⟨u,hu,_⟩=>by cases hu
  | u::r,hx=>by
    by_cases h1:u <:+ p
    · exact ⟨_,FRun.ret (Ab (Ak (Ai (Ev.ends (Zm aY) (Zm fO) (fT (decide_eq_true h1)) (fun _=>⟨_,rfl⟩)) Zn) (Ab (Ax (Ch (Zm fY) (Zm aY) hl)) (by simp))) (by simp))⟩
    · obtain ⟨v,hv,hs⟩:=hx
      have hr:∃ u∈r,u <:+ p:=by
        rcases List.mem_cons.mp hv with rfl | hv
        · exact (h1 hs).elim
        · exact ⟨v,hv,hs⟩
      obtain ⟨st',ih⟩:=l18_yrun (d:=d) (f:=f) (pl:=pl) hl r hr
      refine ⟨st',?_⟩
      refine' FRun.step [("place",.int pl),("head",.str h),("part",.str p)] (Aa (Af (Ai (Ev.ends (Zm aY) (Zm fO) (fT (decide_eq_false h1)) (fun _=>⟨_,rfl⟩)) Zn) Ad) Ad) (.inl rfl) (aD rfl (aD rfl (aD rfl aP))) ih
theorem l18_no {d:Nat} {f:Mu} {h p:T} {pl:Int} (hn:¬ ∃ u∈NUMR,u <:+ p):Ex d (aE (stM 27)) (nthS (aG (stM 27)) 18) ⟨[("place",.int pl),("head",.str h),("part",.str p)],f⟩ .next ⟨[("place",.int pl),("head",.str h),("part",.str p)],f⟩:=by
  refine' Ex.forTl (Bw gP gH iD (by decide)) fO (l18_nrun NUMR fun u hu hs=>hn ⟨u,hu,hs⟩) (fun _ _=>rfl)
theorem l18_yes {d:Nat} {f:Mu} {h p:T} {pl:Int} (hl:(h++p).length≤lim) (hn:∃ u∈NUMR,u <:+ p):∃ st',Ex d (aE (stM 27)) (nthS (aG (stM 27)) 18) ⟨[("place",.int pl),("head",.str h),("part",.str p)],f⟩ (.ret (.str (h++p))) st':=by
  obtain ⟨st',hr⟩:=l18_yrun (d:=d) (f:=f) (pl:=pl) hl NUMR hn
  refine ⟨st',?_⟩
  refine' Ex.forTl (Bw gP gH iD (by decide)) fO hr (fun _ _=>rfl)
theorem bare_le {p b:T} {offs bases:List T} (h:eD p offs bases=some b):b.length≤p.length:=by
  obtain ⟨_,off,_,e⟩:=lS h
  rw [← e,List.length_append]; lia
theorem t13 {d:Nat} {f:Mu} {h p:T} {pl:Nat} (hb:(h++p).length≤60000):∃ st',Exs (d+1) (aE (stM 27)) ((aG (stM 27)).drop 13) ⟨[("place",.int pl),("head",.str h),("part",.str p)],f⟩ (.ret (.str (lawB pl h p))) st':=by
  have hlim:lim=65536:=rfl
  have hab:(h++p).length=h.length+p.length:=List.length_append
  have hp:p.length≤60000:=by lia
  have hlp:(h++p).length≤lim:=by lia
  have hlb:∀ {b:T} {offs bases:List T},eD p offs bases=some b→(h++b).length≤lim:=fun q=>by
    have:=bare_le q
    rw [List.length_append]; lia
  unfold lawB JN
  cases h1:eD p [[],[110]] kE with
  | some b=>exact ⟨_,Bf b27_13 (l13_some hp h1) (Exs.dropS b27_14 (l14_ret (hlb h1)) (by simp))⟩
  | none =>
    have k13:∀ {fl st'},Exs (d+1) (aE (stM 27)) ((aG (stM 27)).drop 15) ⟨[("place",.int pl),("head",.str h),("part",.str p)],f⟩ fl st'→Exs (d+1) (aE (stM 27)) ((aG (stM 27)).drop 13) ⟨[("place",.int pl),("head",.str h),("part",.str p)],f⟩ fl st':=fun q=>Bf b27_13 (l13_none hp h1) (Bf b27_14 l14_go q)
    cases h2:eD p [[],[110],[106],[106,110]] lD with
    | some b=>exact ⟨_,k13 (Bf b27_15 (l15_some hp h2) (Exs.dropS b27_16 (l16_ret (hlb h2)) (by simp)))⟩
    | none =>
      have k15:∀ {fl st'},Exs (d+1) (aE (stM 27)) ((aG (stM 27)).drop 17) ⟨[("place",.int pl),("head",.str h),("part",.str p)],f⟩ fl st'→Exs (d+1) (aE (stM 27)) ((aG (stM 27)).drop 13) ⟨[("place",.int pl),("head",.str h),("part",.str p)],f⟩ fl st':=fun q=>k13 (Bf b27_15 (l15_none hp h2) (Bf b27_16 l16_go q))
      by_cases h3:p∈STAY
      · show ∃ st',Exs _ _ _ _ (.ret (.str (if p∈STAY then _ else _))) st'
        rw [if_pos h3]
        exact ⟨_,k15 (Exs.dropS b27_17 (l17_yes h3 hlp) (by simp))⟩
      · show ∃ st',Exs _ _ _ _ (.ret (.str (if p∈STAY then _ else _))) st'
        rw [if_neg h3]
        by_cases h4:∃ u∈NUMR,u <:+ p
        · rw [if_pos h4]
          obtain ⟨st',hr⟩:=l18_yes (d:=d+1) (f:=f) (pl:=pl) hlp h4
          exact ⟨st',k15 (Bf b27_17 (l17_no h3) (Exs.dropS b27_18 hr (by simp)))⟩
        · rw [if_neg h4]
          have k18:∀ {fl st'},Exs (d+1) (aE (stM 27)) ((aG (stM 27)).drop 19) ⟨[("place",.int pl),("head",.str h),("part",.str p)],f⟩ fl st'→Exs (d+1) (aE (stM 27)) ((aG (stM 27)).drop 13) ⟨[("place",.int pl),("head",.str h),("part",.str p)],f⟩ fl st':=fun q=>k15 (Bf b27_17 (l17_no h3) (Bf b27_18 (l18_no h4) q))
          cases h5:eD p [[],[110],[106],[106,110]] ONES with
          | some b=>exact ⟨_,k18 (Bf b27_19 (l19_some hp h5) (Exs.dropS b27_20 (l20_ret (hlb h5)) (by simp)))⟩
          | none =>
            obtain ⟨st',hr⟩:=t21 (d:=d) (f:=f) (pl:=pl) hb
            exact ⟨st',k18 (Bf b27_19 (l19_none hp h5) (Bf b27_20 l20_go hr))⟩
theorem iQ:(aE (stM 27)).names.lookup ("_law_adverbs" : Str)=some NameKind.globalImplicit:=by kernel_rfl
theorem iP:(aE (stM 27)).names.lookup ("_law_hats" : Str)=some NameKind.globalImplicit:=by kernel_rfl
theorem iC:(aE (stM 27)).names.lookup ("_law_pronouns" : Str)=some NameKind.globalImplicit:=by kernel_rfl
theorem kO:(aE (stM 27)).names.lookup ("_law_verbs" : Str)=some NameKind.globalImplicit:=by kernel_rfl
theorem iR:(aE (stM 27)).names.lookup ("cut" : Str)=some NameKind.local:=by kernel_rfl
theorem jT:(aE (stM 27)).names.lookup ("foreign" : Str)=some NameKind.local:=by kernel_rfl
theorem m27_k:(aE (stM 27)).names.lookup ("k" : Str)=some NameKind.local:=by kernel_rfl
theorem m27_range:(aE (stM 27)).names.lookup ("range" : Str)=some NameKind.globalImplicit:=by kernel_rfl
theorem fW:(aE (stM 27)).names.lookup ("sign" : Str)=some NameKind.local:=by kernel_rfl
theorem cA:(aE (stM 27)).names.lookup ("signs" : Str)=some NameKind.local:=by kernel_rfl
theorem l10_some {d:Nat} {f:Mu} {h p w b:T} {pl:Int} (hp:p.length≤60000) (hb:eD p [[],[110]] PRON=some b):Ex (d+1) (aE (stM 27)) (nthS (aG (stM 27)) 10) ⟨[("place",.int pl),("head",.str h),("part",.str p),("word",.str w)],f⟩ .next ⟨[("place",.int pl),("head",.str h),("part",.str p),("word",.str w),("base",.str b)],f⟩:=by
  refine' (Bd (v:=.str b) (loc':=[("place",.int pl),("head",.str h),("part",.str p),("word",.str w),("base",.str b)]) (Ev.callF eL dS cV (by decide) (Ah (Zm aY) (Ah (Bj (xs:=[[],[110]]) (Ah (Ar (x:=[]) (by rfl) Zb) (Ah (Ar (x:=[110]) (by rfl) Zb) Aq)) Zb) (Ah (Bw gO gG iC (by decide)) Aq))) (gD hp (by decide) hb _)) bX Zn (by rfl))
theorem l10_none {d:Nat} {f:Mu} {h p w:T} {pl:Int} (hp:p.length≤60000) (hb:eD p [[],[110]] PRON=none):Ex (d+1) (aE (stM 27)) (nthS (aG (stM 27)) 10) ⟨[("place",.int pl),("head",.str h),("part",.str p),("word",.str w)],f⟩ .next ⟨[("place",.int pl),("head",.str h),("part",.str p),("word",.str w),("base",.none)],f⟩:=by
  refine' (Bd (v:=.none) (loc':=[("place",.int pl),("head",.str h),("part",.str p),("word",.str w),("base",.none)]) (Ev.callF eL dS cV (by decide) (Ah (Zm aY) (Ah (Bj (xs:=[[],[110]]) (Ah (Ar (x:=[]) (by rfl) Zb) (Ah (Ar (x:=[110]) (by rfl) Zb) Aq)) Zb) (Ah (Bw gO gG iC (by decide)) Aq))) (gE hp (by decide) hb _)) bX Zn (by rfl))
theorem l11_ret {d:Nat} {f:Mu} {h p w b:T} {pl:Int} (hl:(h++b).length≤lim):Ex (d+1) (aE (stM 27)) (nthS (aG (stM 27)) 11) ⟨[("place",.int pl),("head",.str h),("part",.str p),("word",.str w),("base",.str b)],f⟩ (.ret (.str (h++b))) ⟨[("place",.int pl),("head",.str h),("part",.str p),("word",.str w),("base",.str b)],f⟩:=by
  refine' (Ak (Ac (Zm bX) Ev.cnone hZ) (Ab (Ax (Ch (Zm fY) (Zm bX) hl)) (by simp)))
theorem l11_go {d:Nat} {f:Mu} {h p w:T} {pl:Int}  : Ex (d+1) (aE (stM 27)) (nthS (aG (stM 27)) 11) ⟨[("place",.int pl),("head",.str h),("part",.str p),("word",.str w),("base",.none)],f⟩ .next ⟨[("place",.int pl),("head",.str h),("part",.str p),("word",.str w)],f⟩:=by
  refine' (Bz _ (Af (Ac (Zm bX) Ev.cnone gA) Ad) (aD rfl (aD rfl (aD rfl (aD rfl aP)))) rfl)
theorem l12_l {d:Nat} {f:Mu} {h p w:T} {pl:Int} (hp:p.length≤60000) (hq:p.getLast?=some 39) (h1:w=[108,39]):Ex (d+1) (aE (stM 27)) (nthS (aG (stM 27)) 12) ⟨[("place",.int pl),("head",.str h),("part",.str p),("word",.str w)],f⟩ .next ⟨[("place",.int pl),("head",.str h),("part",.str [108,97])],f⟩:=by
  have hlim:lim=65536:=rfl
  have h39:[39] <:+ p:=by
    obtain ⟨ys,rfl⟩:=List.getLast?_eq_some_iff.mp hq
    exact List.suffix_append _ _
  have hsl:Txt.slice (S p) none (some ((p.length:Int) - 1))=S p.dropLast:=by
    obtain ⟨ys,rfl⟩:=List.getLast?_eq_some_iff.mp hq
    rw [dX (by rw [List.length_append]; simp),List.dropLast_eq_take]
    congr 2
    simp
  have hle:p.dropLast.length≤p.length:=by simp
  have ha1:(p.dropLast++[97,365]).length≤lim:=by rw [List.length_append]; simp; lia
  have ha2:(p.dropLast++[111]).length≤lim:=by rw [List.length_append]; simp; lia
  refine' (Bz _ (Ak (Ai (Ev.ends (Zm aY) (Ar (x:=[39]) (by rfl) Zb) (fT (decide_eq_true h39)) (fun _=>⟨_,rfl⟩)) Zn) (Aa (Bd (v:=.str p.dropLast) (loc':=[("place",.int pl),("head",.str h),("part",.str p),("word",.str w),("cut",.str p.dropLast)]) (Ce (Zm aY) (Ag (Be dQ (Zm aY)) Ae) hsl hle) iR Zn (by rfl)) (Aa (Ak (Ac (Zm bO) (Ar (x:=[108,39]) (by rfl) Zb) (kH h1)) (Aa (Bd (v:=.str [108,97]) (loc':=[("place",.int pl),("head",.str h),("part",.str [108,97]),("word",.str w),("cut",.str p.dropLast)]) (Ar (x:=[108,97]) (by rfl) Zb) aY Zn (by rfl)) Ad)) Ad))) (aD rfl (aD rfl (aD rfl aP))) rfl)
theorem l12_un {d:Nat} {f:Mu} {h p w:T} {pl:Int} (hp:p.length≤60000) (hq:p.getLast?=some 39) (h1:w≠[108,39]) (h2:w=[117,110,39]):Ex (d+1) (aE (stM 27)) (nthS (aG (stM 27)) 12) ⟨[("place",.int pl),("head",.str h),("part",.str p),("word",.str w)],f⟩ .next ⟨[("place",.int pl),("head",.str h),("part",.str [117,110,117])],f⟩:=by
  have hlim:lim=65536:=rfl
  have h39:[39] <:+ p:=by
    obtain ⟨ys,rfl⟩:=List.getLast?_eq_some_iff.mp hq
    exact List.suffix_append _ _
  have hsl:Txt.slice (S p) none (some ((p.length:Int) - 1))=S p.dropLast:=by
    obtain ⟨ys,rfl⟩:=List.getLast?_eq_some_iff.mp hq
    rw [dX (by rw [List.length_append]; simp),List.dropLast_eq_take]
    congr 2
    simp
  have hle:p.dropLast.length≤p.length:=by simp
  have ha1:(p.dropLast++[97,365]).length≤lim:=by rw [List.length_append]; simp; lia
  have ha2:(p.dropLast++[111]).length≤lim:=by rw [List.length_append]; simp; lia
  refine' (Bz _ (Ak (Ai (Ev.ends (Zm aY) (Ar (x:=[39]) (by rfl) Zb) (fT (decide_eq_true h39)) (fun _=>⟨_,rfl⟩)) Zn) (Aa (Bd (v:=.str p.dropLast) (loc':=[("place",.int pl),("head",.str h),("part",.str p),("word",.str w),("cut",.str p.dropLast)]) (Ce (Zm aY) (Ag (Be dQ (Zm aY)) Ae) hsl hle) iR Zn (by rfl)) (Aa (Af (Ac (Zm bO) (Ar (x:=[108,39]) (by rfl) Zb) (iI h1)) (Aa (Ak (Ac (Zm bO) (Ar (x:=[117,110,39]) (by rfl) Zb) (kH h2)) (Aa (Bd (v:=.str [117,110,117]) (loc':=[("place",.int pl),("head",.str h),("part",.str [117,110,117]),("word",.str w),("cut",.str p.dropLast)]) (Ar (x:=[117,110,117]) (by rfl) Zb) aY Zn (by rfl)) Ad)) Ad)) Ad))) (aD rfl (aD rfl (aD rfl aP))) rfl)
theorem l12_adv {d:Nat} {f:Mu} {h p w:T} {pl:Int} (hp:p.length≤60000) (hq:p.getLast?=some 39) (h1:w≠[108,39]) (h2:w≠[117,110,39]) (h3:p.dropLast∈ADV):Ex (d+1) (aE (stM 27)) (nthS (aG (stM 27)) 12) ⟨[("place",.int pl),("head",.str h),("part",.str p),("word",.str w)],f⟩ .next ⟨[("place",.int pl),("head",.str h),("part",.str (p.dropLast++[97,365]))],f⟩:=by
  have hlim:lim=65536:=rfl
  have h39:[39] <:+ p:=by
    obtain ⟨ys,rfl⟩:=List.getLast?_eq_some_iff.mp hq
    exact List.suffix_append _ _
  have hsl:Txt.slice (S p) none (some ((p.length:Int) - 1))=S p.dropLast:=by
    obtain ⟨ys,rfl⟩:=List.getLast?_eq_some_iff.mp hq
    rw [dX (by rw [List.length_append]; simp),List.dropLast_eq_take]
    congr 2
    simp
  have hle:p.dropLast.length≤p.length:=by simp
  have ha1:(p.dropLast++[97,365]).length≤lim:=by rw [List.length_append]; simp; lia
  have ha2:(p.dropLast++[111]).length≤lim:=by rw [List.length_append]; simp; lia
  refine' (Bz _ (Ak (Ai (Ev.ends (Zm aY) (Ar (x:=[39]) (by rfl) Zb) (fT (decide_eq_true h39)) (fun _=>⟨_,rfl⟩)) Zn) (Aa (Bd (v:=.str p.dropLast) (loc':=[("place",.int pl),("head",.str h),("part",.str p),("word",.str w),("cut",.str p.dropLast)]) (Ce (Zm aY) (Ag (Be dQ (Zm aY)) Ae) hsl hle) iR Zn (by rfl)) (Aa (Af (Ac (Zm bO) (Ar (x:=[108,39]) (by rfl) Zb) (iI h1)) (Aa (Af (Ac (Zm bO) (Ar (x:=[117,110,39]) (by rfl) Zb) (iI h2)) (Aa (Ak (Ac (Zm iR) (Bw hU gX iQ (by decide)) (dW (r:=true) (by simpa using h3))) (Aa (Bd (v:=.str (p.dropLast++[97,365])) (loc':=[("place",.int pl),("head",.str h),("part",.str (p.dropLast++[97,365])),("word",.str w),("cut",.str p.dropLast)]) (Ch (Zm iR) (Ar (x:=[97,365]) (by rfl) Zb) ha1) aY Zn (by rfl)) Ad)) Ad)) Ad)) Ad))) (aD rfl (aD rfl (aD rfl aP))) rfl)
theorem l12_o {d:Nat} {f:Mu} {h p w:T} {pl:Int} (hp:p.length≤60000) (hq:p.getLast?=some 39) (h1:w≠[108,39]) (h2:w≠[117,110,39]) (h3:p.dropLast ∉ ADV):Ex (d+1) (aE (stM 27)) (nthS (aG (stM 27)) 12) ⟨[("place",.int pl),("head",.str h),("part",.str p),("word",.str w)],f⟩ .next ⟨[("place",.int pl),("head",.str h),("part",.str (p.dropLast++[111]))],f⟩:=by
  have hlim:lim=65536:=rfl
  have h39:[39] <:+ p:=by
    obtain ⟨ys,rfl⟩:=List.getLast?_eq_some_iff.mp hq
    exact List.suffix_append _ _
  have hsl:Txt.slice (S p) none (some ((p.length:Int) - 1))=S p.dropLast:=by
    obtain ⟨ys,rfl⟩:=List.getLast?_eq_some_iff.mp hq
    rw [dX (by rw [List.length_append]; simp),List.dropLast_eq_take]
    congr 2
    simp
  have hle:p.dropLast.length≤p.length:=by simp
  have ha1:(p.dropLast++[97,365]).length≤lim:=by rw [List.length_append]; simp; lia
  have ha2:(p.dropLast++[111]).length≤lim:=by rw [List.length_append]; simp; lia
  refine' (Bz _ (Ak (Ai (Ev.ends (Zm aY) (Ar (x:=[39]) (by rfl) Zb) (fT (decide_eq_true h39)) (fun _=>⟨_,rfl⟩)) Zn) (Aa (Bd (v:=.str p.dropLast) (loc':=[("place",.int pl),("head",.str h),("part",.str p),("word",.str w),("cut",.str p.dropLast)]) (Ce (Zm aY) (Ag (Be dQ (Zm aY)) Ae) hsl hle) iR Zn (by rfl)) (Aa (Af (Ac (Zm bO) (Ar (x:=[108,39]) (by rfl) Zb) (iI h1)) (Aa (Af (Ac (Zm bO) (Ar (x:=[117,110,39]) (by rfl) Zb) (iI h2)) (Aa (Af (Ac (Zm iR) (Bw hU gX iQ (by decide)) (dW (r:=false) (by simpa using h3))) (Aa (Bd (v:=.str (p.dropLast++[111])) (loc':=[("place",.int pl),("head",.str h),("part",.str (p.dropLast++[111])),("word",.str w),("cut",.str p.dropLast)]) (Ch (Zm iR) (Ar (x:=[111]) (by rfl) Zb) ha2) aY Zn (by rfl)) Ad)) Ad)) Ad)) Ad))) (aD rfl (aD rfl (aD rfl aP))) rfl)
theorem l12_no {d:Nat} {f:Mu} {h p w:T} {pl:Int} (hq:p.getLast?≠some 39):Ex (d+1) (aE (stM 27)) (nthS (aG (stM 27)) 12) ⟨[("place",.int pl),("head",.str h),("part",.str p),("word",.str w)],f⟩ .next ⟨[("place",.int pl),("head",.str h),("part",.str p)],f⟩:=by
  have h39:¬ [39] <:+ p:=fun ⟨z,e⟩=>hq (by rw [← e]; simp)
  refine' (Bz _ (Af (Ai (Ev.ends (Zm aY) (Ar (x:=[39]) (by rfl) Zb) (fT (decide_eq_false h39)) (fun _=>⟨_,rfl⟩)) Zn) Ad) (aD rfl (aD rfl (aD rfl aP))) rfl)
theorem l12 {d:Nat} {f:Mu} {h p w:T} {pl:Int} (hp:p.length≤60000):Ex (d+1) (aE (stM 27)) (nthS (aG (stM 27)) 12) ⟨[("place",.int pl),("head",.str h),("part",.str p),("word",.str w)],f⟩ .next ⟨[("place",.int pl),("head",.str h),("part",.str (if p.getLast?=some 39 then apo w p else p))],f⟩:=by
  by_cases hq:p.getLast?=some 39
  · rw [if_pos hq]
    unfold apo
    by_cases h1:w=[108,39]
    · rw [if_pos h1]; exact l12_l hp hq h1
    · rw [if_neg h1]
      by_cases h2:w=[117,110,39]
      · rw [if_pos h2]; exact l12_un hp hq h1 h2
      · rw [if_neg h2]
        by_cases h3:p.dropLast∈ADV
        · rw [if_pos h3]; exact l12_adv hp hq h1 h2 h3
        · rw [if_neg h3]; exact l12_o hp hq h1 h2 h3
  · rw [if_neg hq]; exact l12_no hq
theorem t10 {d:Nat} {f:Mu} {h p w:T} {pl:Nat} (hb:(h++p).length≤50000):∃ st',Exs (d+1) (aE (stM 27)) ((aG (stM 27)).drop 10) ⟨[("place",.int pl),("head",.str h),("part",.str p),("word",.str w)],f⟩ (.ret (.str (lawA pl h p w))) st':=by
  have hlim:lim=65536:=rfl
  have hab:(h++p).length=h.length+p.length:=List.length_append
  have hp:p.length≤60000:=by lia
  unfold lawA
  cases h1:eD p [[],[110]] PRON with
  | some b =>
    have:=bare_le h1
    exact ⟨_,Bf b27_10 (l10_some hp h1) (Exs.dropS b27_11 (l11_ret (by rw [List.length_append]; lia)) (by simp))⟩
  | none =>
    have hpl:(if p.getLast?=some 39 then apo w p else p).length≤p.length+5:=by
      split
      · unfold apo
        have hd:p.dropLast.length≤p.length:=by simp
        split
        · simp
        · split
          · simp
          · split <;> rw [List.length_append] <;> simp <;> lia
      · lia
    obtain ⟨st',hr⟩:=t13 (d:=d) (f:=f) (h:=h) (p:=if p.getLast?=some 39 then apo w p else p) (pl:=pl) (by rw [List.length_append]; lia)
    exact ⟨st',Bf b27_10 (l10_none hp h1) (Bf b27_11 l11_go (Bf b27_12 (l12 hp) hr))⟩
theorem l6_ret {d:Nat} {f:Mu} {w z:T} {pl:Int} (hz:z≠[]):Ex (d+1) (aE (stM 27)) (nthS (aG (stM 27)) 6) ⟨[("place",.int pl),("foreign",.tl (tx z)),("word",.str w)],f⟩ (.ret (.str w)) ⟨[("place",.int pl),("foreign",.tl (tx z)),("word",.str w)],f⟩:=by
  have e:tx z≠[]:=fun q=>hz ((tx_nil z).mp q)
  refine' (Ak (Tst.cmpR (Zm jT) (Bj (xs:=[]) Aq Zb) (cr_tl_ne (r:=true) (by simpa using e))) (Ab (Ax (Zm bO)) (by simp)))
theorem l6_go {d:Nat} {f:Mu} {w z:T} {pl:Int} (hz:z=[]):Ex (d+1) (aE (stM 27)) (nthS (aG (stM 27)) 6) ⟨[("place",.int pl),("foreign",.tl (tx z)),("word",.str w)],f⟩ .next ⟨[("place",.int pl),("foreign",.tl (tx z)),("word",.str w)],f⟩:=by
  have e:tx z=[]:=(tx_nil z).mpr hz
  refine' (Af (Tst.cmpR (Zm jT) (Bj (xs:=[]) Aq Zb) (cr_tl_ne (r:=false) (by simpa using e))) Ad)
theorem l7_yes {d:Nat} {f:Mu} {w:T} {pl:Int} (hw:w.length≤60000) (h:w∈VERB):Ex (d+1) (aE (stM 27)) (nthS (aG (stM 27)) 7) ⟨[("place",.int pl),("word",.str w)],f⟩ .next ⟨[("place",.int pl),("word",.str (101::w.drop 1))],f⟩:=by
  have hlim:lim=65536:=rfl
  have h0:=(lF h).2
  have hsl:Txt.slice (S w) (some (1:Int)) none=S (w.drop 1):=by rw [fU (by lia),slFrom' (by lia)]; rfl
  have hle:(w.drop 1).length≤w.length:=by rw [List.length_drop]; lia
  have hc:(([101]:T)++w.drop 1).length≤lim:=by rw [List.length_append,List.length_drop]; simp; lia
  refine' (Ak (Ac (Zm bO) (Bw kB jO kO (by decide)) (dW (r:=true) (by simpa using h))) (Aa (Bd (v:=.str ([101]++(w.drop 1))) (loc':=[("place",.int pl),("word",.str ([101]++(w.drop 1)))]) (Ch (Ar (x:=[101]) (by rfl) Zb) (Ev.sliceFromG (Zm bO) Ae hsl hle) hc) bO Zn (by rfl)) Ad))
theorem l7_no {d:Nat} {f:Mu} {w:T} {pl:Int} (h:w ∉ VERB):Ex (d+1) (aE (stM 27)) (nthS (aG (stM 27)) 7) ⟨[("place",.int pl),("word",.str w)],f⟩ .next ⟨[("place",.int pl),("word",.str w)],f⟩:=by
  refine' (Af (Ac (Zm bO) (Bw kB jO kO (by decide)) (dW (r:=false) (by simpa using h))) Ad)
theorem l8 {d:Nat} {f:Mu} {w:T} {n:Nat} (hn:n≤w.length):Ex (d+1) (aE (stM 27)) (nthS (aG (stM 27)) 8) ⟨[("place",.int (n:Int)),("word",.str w)],f⟩ .next ⟨[("place",.int (n:Int)),("word",.str w),("head",.str (w.take n))],f⟩:=by
  have hsl:Txt.slice (S w) none (some (n:Int))=S (w.take n):=by rw [dX (by lia)]; rfl
  have hle:(w.take n).length≤w.length:=by rw [List.length_take]; lia
  refine' (Bd (v:=.str (w.take n)) (loc':=[("place",.int (n:Int)),("word",.str w),("head",.str (w.take n))]) (Ce (Zm bO) (Zm fB) hsl hle) fY Zn (by rfl))
theorem l9 {d:Nat} {f:Mu} {w:T} {n:Nat} (hn:n≤w.length):Ex (d+1) (aE (stM 27)) (nthS (aG (stM 27)) 9) ⟨[("place",.int (n:Int)),("word",.str w),("head",.str (w.take n))],f⟩ .next ⟨[("place",.int (n:Int)),("word",.str w),("head",.str (w.take n)),("part",.str (w.drop n))],f⟩:=by
  have hsl:Txt.slice (S w) (some (n:Int)) none=S (w.drop n):=by rw [fU (by lia),slFrom' (by lia)]; rfl
  have hle:(w.drop n).length≤w.length:=by rw [List.length_drop]; lia
  refine' (Bd (v:=.str (w.drop n)) (loc':=[("place",.int (n:Int)),("word",.str w),("head",.str (w.take n)),("part",.str (w.drop n))]) (Ev.sliceFromG (Zm bO) (Zm fB) hsl hle) aY Zn (by rfl))
theorem l7 {d:Nat} {f:Mu} {w:T} {pl:Int} (hw:w.length≤60000):Ex (d+1) (aE (stM 27)) (nthS (aG (stM 27)) 7) ⟨[("place",.int pl),("word",.str w)],f⟩ .next ⟨[("place",.int pl),("word",.str (lawV w))],f⟩:=by
  unfold lawV
  by_cases h:w∈VERB
  · rw [if_pos h]; exact l7_yes hw h
  · rw [if_neg h]; exact l7_no h
theorem lawV_length {w:T}:(lawV w).length=w.length:=by
  unfold lawV
  by_cases h:w∈VERB
  · rw [if_pos h]
    have:=(lF h).2
    rw [List.length_cons,List.length_drop]; lia
  · rw [if_neg h]
theorem t6 {d:Nat} {f:Mu} {w z:T} {n:Nat} (hw:w.length≤50000) (hn:n≤w.length):∃ st',Exs (d+1) (aE (stM 27)) ((aG (stM 27)).drop 6) ⟨[("place",.int n),("foreign",.tl (tx z)),("word",.str w)],f⟩ (.ret (.str (if z≠[] then w else lawA n ((lawV w).take n) ((lawV w).drop n) (lawV w)))) st':=by
  by_cases hz:z≠[]
  · rw [if_pos hz]
    exact ⟨_,Exs.dropS b27_6 (l6_ret hz) (by simp)⟩
  · rw [if_neg hz]
    have hz':z=[]:=Decidable.of_not_not hz
    have hv:=lawV_length (w:=w)
    obtain ⟨st',hr⟩:=t10 (d:=d) (f:=f) (h:=(lawV w).take n) (p:=(lawV w).drop n) (w:=lawV w) (pl:=n) (by rw [List.take_append_drop]; lia)
    exact ⟨st',Bf b27_6 (l6_go hz') (Exs.weak (l:=[("place",.int n),("word",.str w)]) (aD rfl (aD rfl aP)) (Bf b27_7 (l7 (by lia)) (Bf b27_8 (l8 (by lia)) (Bf b27_9 (l9 (by lia)) (Exs.weak (l:=[("place",.int n),("head",.str ((lawV w).take n)),("part",.str ((lawV w).drop n)),("word",.str (lawV w))]) (aD rfl (aD rfl (aD rfl (aD rfl aP)))) hr)))))⟩
theorem l1_run {d:Nat} {w0:T} {a:Addr}:∀ (r acc:T),acc.length+r.length≤60000→FRun (d+1) (aE (stM 27)) "sign" (cU (nthS (aG (stM 27)) 1)) (r.map fun ch=>SV.str [ch]) ⟨[("word",.str w0),("signs",.lst a)],.lst a (tx acc)⟩ .next ⟨[("word",.str w0),("signs",.lst a)],.lst a (tx (r.foldl fF acc))⟩
  | [],acc,_=>.done
  | ch::r,acc,hl=>by
    rw [List.foldl_cons]
    have hl':acc.length+(r.length+1)≤60000:=hl
    have hsa:(fF acc ch).length+r.length≤60000:=by
      have:(fF acc ch).length≤acc.length+1:=by
        unfold fF
        split
        · simp
        · split
          · split
            · rw [List.length_append,List.length_dropLast]; show acc.length - 1+1≤acc.length+1; lia
            · simp
          · simp
      lia
    have ih:=l1_run (d:=d) (w0:=w0) (a:=a) r (fF acc ch) hsa
    have add:fF acc ch=acc++[ch]→tx (fF acc ch)=tx acc++[[ch]]:=fun e=>by rw [e,tx_app]; rfl
    by_cases h1:[ch]=[120]
    · have hc:ch=120:=by simpa using h1
      rcases List.eq_nil_or_concat acc with h2 | ⟨acc',b,h2⟩
      · have e:=add (iZ (.inr fun b q=>by rw [h2] at q; cases q))
        have hsz:(tx acc).length≤100000:=by rw [cF]; lia
        rw [e] at ih
        have h2':tx acc=[]:=(tx_nil acc).mpr h2
        refine' FRun.step [("word",.str w0),("signs",.lst a)] (Aa (Af (Bp (Ac (Zm fW) (Ar (x:=[120]) (by rfl) Zb) (kH h1)) (Cd (Tst.cmpR (Zm cA) (Bj (xs:=[]) Aq Zb) (nS (r:=false) rfl (by simpa using h2'))))) (Aa (Bg (Ev.append (Zm cA) rfl (Zm fW) rfl hsz (fun _=>⟨_,rfl⟩)) (by rfl) Zn) Ad)) Ad) (.inl rfl) (aD rfl (aD rfl aP)) ih
      · rw [List.concat_eq_append] at h2
        subst h2
        have hab:(acc'++[b]).length=acc'.length+1:=by simp
        have ha:tx (acc'++[b])=tx acc'++[[b]]:=by rw [tx_app]; rfl
        have hsz:(tx acc'++[[b]]).length≤100000:=by rw [← ha,cF]; lia
        cases hh:jD b with
        | none =>
          have e:=add (iZ (.inr fun b' q=>by simp at q; rw [← q]; exact hh))
          rw [e,ha] at ih
          rw [ha]
          have h3:(HATL.lookup [b]).isSome=false:=by rw [hats_sl,hh]; rfl
          refine' FRun.step [("word",.str w0),("signs",.lst a)] (Aa (Af (Bp (Ac (Zm fW) (Ar (x:=[120]) (by rfl) Zb) (kH h1)) (Bp (Tst.cmpR (Zm cA) (Bj (xs:=[]) Aq Zb) (nS (r:=true) rfl (by simp))) (Cd (Ac (Ev.lstLast (Zm cA) (Cc Ae) rfl) (Ev.callF0 lQ jX iP (by decide) (hats_ok _)) (mL (r:=false) h3))))) (Aa (Bg (Ev.append (Zm cA) rfl (Zm fW) rfl hsz (fun _=>⟨_,rfl⟩)) (by rfl) Zn) Ad)) Ad) (.inl rfl) (aD rfl (aD rfl aP)) ih
        | some c =>
          have e:tx (fF (acc'++[b]) ch)=tx acc'++[[c]]:=by
            unfold fF
            simp [hc,hh,tx]
          rw [e] at ih
          rw [ha]
          have h3:(HATL.lookup [b]).isSome=true:=by rw [hats_sl,hh]; rfl
          have h4:HATL.lookup [b]=some [c]:=by rw [hats_sl,hh]; rfl
          refine' FRun.step [("word",.str w0),("signs",.lst a)] (Aa (Ak (Bp (Ac (Zm fW) (Ar (x:=[120]) (by rfl) Zb) (kH h1)) (Bp (Tst.cmpR (Zm cA) (Bj (xs:=[]) Aq Zb) (nS (r:=true) rfl (by simp))) (Bp (Ac (Ev.lstLast (Zm cA) (Cc Ae) rfl) (Ev.callF0 lQ jX iP (by decide) (hats_ok _)) (mL (r:=true) h3)) Tst.and_nil))) (Aa (Ex.setLast (Ev.dctIdx (Ev.callF0 lQ jX iP (by decide) (hats_ok _)) (Ev.lstLast (Zm cA) (Cc Ae) rfl) h4) (Zm cA) (Cc Ae) rfl Zn) Ad)) Ad) (.inl rfl) (aD rfl (aD rfl aP)) ih
    · have e:=add (iZ (.inl fun q=>h1 (congrArg (fun z=>[z]) q)))
      have hsz:(tx acc).length≤100000:=by rw [cF]; lia
      rw [e] at ih
      refine' FRun.step [("word",.str w0),("signs",.lst a)] (Aa (Af (Cd (Ac (Zm fW) (Ar (x:=[120]) (by rfl) Zb) (iI h1))) (Aa (Bg (Ev.append (Zm cA) rfl (Zm fW) rfl hsz (fun _=>⟨_,rfl⟩)) (by rfl) Zn) Ad)) Ad) (.inl rfl) (aD rfl (aD rfl aP)) ih
theorem l1 {d:Nat} {w0:T} {a:Addr} (hw:w0.length≤60000):Ex (d+1) (aE (stM 27)) (nthS (aG (stM 27)) 1) ⟨[("word",.str w0),("signs",.lst a)],.lst a []⟩ .next ⟨[("word",.str w0),("signs",.lst a)],.lst a (tx (aZ w0))⟩:=by
  refine' Ex.forStr (Zm bO) fW (l1_run w0 [] (by simpa using hw)) (fun _ _=>rfl)
theorem l2 {d:Nat} {w0 s:T} {a:Addr}  : Ex (d+1) (aE (stM 27)) (nthS (aG (stM 27)) 2) ⟨[("word",.str w0),("signs",.lst a)],(.lst a (tx s))⟩ .next ⟨[("word",.str w0),("signs",.lst a),("place",.int 0)],(.lst a (tx s))⟩:=by
  refine' (Bd (v:=.int 0) (loc':=[("word",.str w0),("signs",.lst a),("place",.int 0)]) Ae fB Zn (by rfl))
theorem l3_run {d:Nat} {w0 s:T} {a:Addr} (hs:s.length≤60000):∀ (r:T) (k pl:Nat),s.drop k=r→FRun d (aE (stM 27)) "k" (cU (nthS (aG (stM 27)) 3)) (upTo (k:Int) s.length) ⟨[("word",.str w0),("signs",.lst a),("place",.int (pl:Int))],(.lst a (tx s))⟩ .next ⟨[("word",.str w0),("signs",.lst a),("place",.int ((plF r k pl:Nat):Int))],(.lst a (tx s))⟩
  | [],k,pl,h=>by
    have hk:s.length≤k:=List.drop_eq_nil_iff.mp h
    rw [upTo_nil (by lia)]
    exact .done
  | x::r,k,pl,h=>by
    have hk:k < s.length:=by
      rcases Nat.lt_or_ge k s.length with q | q
      · exact q
      · rw [List.drop_eq_nil_iff.mpr q] at h; cases h
    have hdrop:s.drop k=s[k]::s.drop (k+1):=List.drop_eq_getElem_cons hk
    rw [hdrop] at h
    have hx0:s[k]=x:=(List.cons.inj h).1
    have hr:s.drop (k+1)=r:=(List.cons.inj h).2
    have hx:(tx s)[((k:Nat):Int).toNat]?=some [s[k]]:=by
      show (tx s)[k]?=_
      unfold tx
      rw [List.getElem?_map,List.getElem?_eq_getElem hk]; rfl
    rw [upTo_cons (by lia),show ((k:Int)+1)=((k+1:Nat):Int) by lia]
    unfold plF
    by_cases hy:x=45
    · rw [if_pos hy]
      have h1:[s[k]]=[45]:=by rw [hx0,hy]
      have ih:=l3_run (d:=d) (w0:=w0) (a:=a) hs r (k+1) (k+1) hr
      rw [show (((k+1:Nat):Nat):Int)=(k:Int)+1 by lia] at ih ⊢
      refine' FRun.step [("word",.str w0),("signs",.lst a),("place",.int ((k:Int)+1))] (Aa (Ak (Ac (Ev.lstIdx (Zm cA) (Zm m27_k) rfl (by lia) hx) (Ar (x:=[45]) (by rfl) Zb) (kH h1)) (Aa (Bd (v:=.int ((k:Int)+1)) (loc':=[("word",.str w0),("signs",.lst a),("place",.int ((k:Int)+1)),("k",.int (k:Int))]) (Cb (Zm m27_k) Ae) fB Zn (by rfl)) Ad)) Ad) (.inl rfl) (aD rfl (aD rfl (aD rfl aP))) ih
    · rw [if_neg hy]
      have h1:[s[k]]≠[45]:=fun q=>hy (by rw [← hx0]; simpa using q)
      have ih:=l3_run (d:=d) (w0:=w0) (a:=a) hs r (k+1) pl hr
      refine' FRun.step [("word",.str w0),("signs",.lst a),("place",.int (pl:Int))] (Aa (Af (Ac (Ev.lstIdx (Zm cA) (Zm m27_k) rfl (by lia) hx) (Ar (x:=[45]) (by rfl) Zb) (iI h1)) Ad) Ad) (.inl rfl) (aD rfl (aD rfl (aD rfl aP))) ih
theorem l3 {d:Nat} {w0 s:T} {a:Addr} (hs:s.length≤60000):Ex d (aE (stM 27)) (nthS (aG (stM 27)) 3) ⟨[("word",.str w0),("signs",.lst a),("place",.int 0)],(.lst a (tx s))⟩ .next ⟨[("word",.str w0),("signs",.lst a),("place",.int ((cB s:Nat):Int))],(.lst a (tx s))⟩:=by
  have hl:(tx s).length=s.length:=cF s
  have hrun:=l3_run (d:=d) (w0:=w0) (a:=a) hs s 0 0 rfl
  refine' Ex.forTo (b:=((tx s).length:Int)) m27_range (Ev.lenLst dQ (Zm cA) rfl (by rw [cF]; lia)) m27_k (by lia) (by rw [hl]; exact hrun)
theorem l4 {d:Nat} {w0 s:T} {a:Addr} {n:Nat} (hs:s.length≤60000):Ex (d+1) (aE (stM 27)) (nthS (aG (stM 27)) 4) ⟨[("word",.str w0),("signs",.lst a),("place",.int (n:Int))],(.lst a (tx s))⟩ .next ⟨[("word",.str w0),("signs",.lst a),("place",.int (n:Int)),("foreign",.tl (tx ((s.drop n).filter fun a=>decide (a∈FORS))))],(.lst a (tx s))⟩:=by
  have hl:(tx s).length=s.length:=cF s
  have hd:(tx s).drop n=tx (s.drop n):=tx_drop s n
  have hle:(tx (s.drop n)).length≤s.length:=by rw [cF,List.length_drop]; lia
  refine' (Bv ⟨[("word",.str w0),("signs",.lst a),("place",.int (n:Int)),("foreign",.tl (tx ((s.drop n).filter fun a=>decide (a∈FORS))))],(.lst a (tx s))⟩ (Ex.setComp (by kernel_rfl) (by kernel_rfl) (by kernel_rfl) (by kernel_rfl) (by kernel_rfl) (Ev.lstFrom (Zm cA) (Zm fB) rfl (by lia)) (by rw [hd,List.length_map]; lia) (by rw [hd,tx_map]; exact mK (L:=FORS) g_law_foreign kp_law_foreign (by decide) fors_ok (by kernel_rfl) (by kernel_rfl) (s.drop n)) itok_tl jT (fun _ _=>rfl) (by kernel_rfl) (by kernel_rfl)) (by rfl))
theorem l5 {d:Nat} {w0 s z:T} {a:Addr} {n:Nat} (hs:s.length≤60000):Ex (d+1) (aE (stM 27)) (nthS (aG (stM 27)) 5) ⟨[("word",.str w0),("signs",.lst a),("place",.int (n:Int)),("foreign",.tl (tx z))],(.lst a (tx s))⟩ .next ⟨[("word",.str (s.map cE)),("signs",.lst a),("place",.int (n:Int)),("foreign",.tl (tx z))],(.lst a (tx s))⟩:=by
  have hlim:lim=65536:=rfl
  have hl:(tx s).length=s.length:=cF s
  have e1:(tx (s.map cE)).flatten=s.map cE:=tx_flatten _
  have e2:(tx (s.map cE)).flatten.length≤lim:=by rw [e1,List.length_map]; lia
  have e3:(tx (s.map cE)).length≤100000:=by rw [cF,List.length_map]; lia
  have e4:SV.str (tx (s.map cE)).flatten=SV.str (s.map cE):=by rw [e1]
  refine' (Bd (v:=.str (s.map cE)) (loc':=[("word",.str (s.map cE)),("signs",.lst a),("place",.int (n:Int)),("foreign",.tl (tx z))]) (Ev.eq (Ev.join (Ar (x:=[]) (by rfl) Zb) (Ev.compLst (by kernel_rfl) (by kernel_rfl) (by kernel_rfl) (by kernel_rfl) (by kernel_rfl) (Zm cA) (by lia) (by rw [tx_map]; exact acc_run (by kernel_rfl) (by kernel_rfl) s) (fun _ _=>rfl)) e2 e3 (fun _=>⟨_,rfl⟩)) e4) bO Zn (by rfl))
theorem nF {d:Nat} {w:T} (hw:w.length≤50000):∀ f,CallOK (d+2) 764 [.str w] f (.str (eU w)) f:=by
  have hsl:=lU w
  obtain ⟨hpl,_⟩:=place_ok (aZ w)
  have h0:Exs (d+1) (aE (stM 27)) (aG (stM 27)) ⟨[("word",.str w)],.none⟩ (.ret (.str (eU w))) ⟨[],.none⟩:=by
    have e0:aG (stM 27)=nthS (aG (stM 27)) 0::(aG (stM 27)).drop 1:=by kernel_rfl
    have hx:∀ a,∃ st',Exs (d+1) (aE (stM 27)) ((aG (stM 27)).drop 1) ⟨[("word",.str w),("signs",.lst a)],.lst a []⟩ (.ret (.str (eU w))) st':=fun a=>by
      obtain ⟨st',h6⟩:=t6 (d:=d) (f:=.lst a (tx (aZ w))) (w:=(aZ w).map cE) (z:=((aZ w).drop (cB (aZ w))).filter fun a=>decide (a∈FORS)) (n:=cB (aZ w)) (by rw [List.length_map]; lia) (by rw [List.length_map]; exact hpl)
      have hval:(if (((aZ w).drop (cB (aZ w))).filter fun a=>decide (a∈FORS))≠[] then (aZ w).map cE else lawA (cB (aZ w)) ((lawV ((aZ w).map cE)).take (cB (aZ w))) ((lawV ((aZ w).map cE)).drop (cB (aZ w))) (lawV ((aZ w).map cE)))=eU w:=by
        unfold eU
        by_cases h:((aZ w).drop (cB (aZ w))).any (fun a=>decide (a∈FORS))=true
        · rw [if_pos h,if_pos]
          obtain ⟨b,h1,h2⟩:=List.any_eq_true.mp h
          exact fun q=>by
            have:b∈(((aZ w).drop (cB (aZ w))).filter fun a=>decide (a∈FORS)):=List.mem_filter.mpr ⟨h1,h2⟩
            rw [q] at this
            cases this
        · rw [if_neg h,if_neg]
          intro q
          refine q (List.filter_eq_nil_iff.mpr fun b hb hc=>h (List.any_eq_true.mpr ⟨b,hb,hc⟩))
      rw [hval] at h6
      refine ⟨st',Bf b27_1 (l1 (by lia)) (Bf b27_2 l2 (Bf b27_3 (l3 (by lia)) (Bf b27_4 (l4 (by lia)) (Bf b27_5 (l5 (by lia)) (Exs.weak (l:=[("place",.int (cB (aZ w))),("foreign",.tl (tx (((aZ w).drop (cB (aZ w))).filter fun a=>decide (a∈FORS)))),("word",.str ((aZ w).map cE))]) (aD rfl (aD rfl (aD rfl aP))) h6)))))⟩
    rw [e0]
    exact Exs.newLst (st':=fun a=>(hx a).choose) cA Zn fun a=>(hx a).choose_spec
  exact Cf fn_law_stem rfl (.inl rfl) h0
theorem nC:(aE (stM 28)).names.lookup ("_law_adverbs" : Str)=some NameKind.globalImplicit:=by kernel_rfl
theorem m28_law_ends:(aE (stM 28)).names.lookup ("_law_ends" : Str)=some NameKind.globalImplicit:=by kernel_rfl
theorem mB:(aE (stM 28)).names.lookup ("_law_numerals" : Str)=some NameKind.globalImplicit:=by kernel_rfl
theorem m28_law_ones:(aE (stM 28)).names.lookup ("_law_ones" : Str)=some NameKind.globalImplicit:=by kernel_rfl
theorem mA:(aE (stM 28)).names.lookup ("_law_pronouns" : Str)=some NameKind.globalImplicit:=by kernel_rfl
theorem gJ:(aE (stM 28)).names.lookup ("_law_shapes" : Str)=some NameKind.globalImplicit:=by kernel_rfl
theorem m28_law_stays:(aE (stM 28)).names.lookup ("_law_stays" : Str)=some NameKind.globalImplicit:=by kernel_rfl
theorem m28_law_verbs:(aE (stM 28)).names.lookup ("_law_verbs" : Str)=some NameKind.globalImplicit:=by kernel_rfl
theorem m28_law_where:(aE (stM 28)).names.lookup ("_law_where" : Str)=some NameKind.globalImplicit:=by kernel_rfl
theorem m28_law_which:(aE (stM 28)).names.lookup ("_law_which" : Str)=some NameKind.globalImplicit:=by kernel_rfl
theorem lL:(aE (stM 28)).names.lookup ("closes" : Str)=some NameKind.local:=by kernel_rfl
theorem m28_front:(aE (stM 28)).names.lookup ("front" : Str)=some NameKind.local:=by kernel_rfl
theorem m28_len:(aE (stM 28)).names.lookup ("len" : Str)=some NameKind.globalImplicit:=by kernel_rfl
theorem eH:(aE (stM 28)).names.lookup ("numbers" : Str)=some NameKind.local:=by kernel_rfl
theorem kL:(aE (stM 28)).names.lookup ("shape" : Str)=some NameKind.local:=by kernel_rfl
theorem lR {a b:Int} (hb:0 < b):0≤a.fmod b∧a.fmod b < b:=by
  rw [Int.fmod_eq_emod_of_nonneg a (Int.le_of_lt hb)]
  exact ⟨Int.emod_nonneg a (by lia),Int.emod_lt_of_pos a hb⟩
noncomputable def pieceOf (i:Int):T:=(PIEC[(i.fmod (PIEC.length:Int)).toNat]?).getD []
theorem piece_at (i:Int):PIEC[(i.fmod (PIEC.length:Int)).toNat]?=some (pieceOf i):=by
  obtain ⟨h1,h2⟩:=lR (a:=i) (b:=(PIEC.length:Int)) (by decide)
  have:(i.fmod (PIEC.length:Int)).toNat < PIEC.length:=by lia
  unfold pieceOf
  rw [List.getElem?_eq_getElem this]; rfl
theorem piece_len (i:Int):(pieceOf i).length≤10:=by
  have h:=List.mem_of_getElem? (piece_at i)
  exact (by decide +kernel:∀ x∈PIEC,x.length≤10) _ h
theorem pieces_len:∀ ns:List Int,((ns.map pieceOf).flatten).length≤10 * ns.length
  | []=>by simp
  | i::r=>by
    have h1:=pieces_len r
    have h2:=piece_len i
    rw [List.map_cons,List.flatten_cons,List.length_append,List.length_cons]
    lia
theorem piece_run {d:Nat} {sc cs:Scope} {st:Sx} {p1 p2 p3 p4 p5 p6 p7:Pos} (h1:cs.names.lookup ("number" : Str)=some .local) (h2:cs.names.lookup ("_law_pieces" : Str)=some .globalImplicit) (h3:cs.names.lookup ("len" : Str)=some .globalImplicit):∀ ns:List Int,
    CRun d sc cs "number" [] (.Subscript (.Name "_law_pieces" p1) (.BinOp (.Name "number" p2) .Mod (.Call (.Name "len" p3) [.Name "_law_pieces" p4] [] p5) p6) p7) st (ns.map SV.int) (ns.map pieceOf)
  | []=>.done
  | i::r=>by
    have hl:(PIEC.length:Int) < 1000:=by decide
    obtain ⟨b1,b2⟩:=lR (a:=i) (b:=(PIEC.length:Int)) (by decide)
    exact .yes .nil (EvK.tlIdx (EvK.glob lZ lT h2 (by decide)) (EvK.mod (EvK.var h1 (by decide)) (EvK.lenTl h3 (EvK.glob lZ lT h2 (by decide)) (by decide)) (by decide)) ⟨b1,by lia⟩ (piece_at i)) (piece_run h1 h2 h3 r)
noncomputable def CLOS:List T:=[[]]++ENDS++PRON++kE++lD++ONES++NUMR++STAY++ADV++VERB++[[108],[117,110]]
theorem w0_yes {d:Nat} {ns:List Int} (h:ns=[]):Ex (d+1) (aE (stM 28)) (nthS (aG (stM 28)) 0) ⟨[("numbers",.il ns)],.none⟩ (.ret (.str ([]:T))) ⟨[("numbers",.il ns)],.none⟩:=by
  refine' (Ak (Tst.cmpR (Zm eH) (Bj (xs:=[]) Aq Zb) (cr_il_nil (r:=true) (by simpa using h))) (Ab (Ax (Ar (x:=[]) (by rfl) Zb)) (by simp)))
theorem w0_no {d:Nat} {ns:List Int} (h:ns≠[]):Ex (d+1) (aE (stM 28)) (nthS (aG (stM 28)) 0) ⟨[("numbers",.il ns)],.none⟩ .next ⟨[("numbers",.il ns)],.none⟩:=by
  refine' (Af (Tst.cmpR (Zm eH) (Bj (xs:=[]) Aq Zb) (cr_il_nil (r:=false) (by simpa using h))) Ad)
theorem w1 {d:Nat} {ns:List Int}  : Ex (d+1) (aE (stM 28)) (nthS (aG (stM 28)) 1) ⟨[("numbers",.il ns)],.none⟩ .next ⟨[("numbers",.il ns),("closes",.tl CLOS)],.none⟩:=by
  refine' (Bd (v:=.tl CLOS) (loc':=[("numbers",.il ns),("closes",.tl CLOS)]) (Ev.eq (Ev.catL (Ev.catL (Ev.catL (Ev.catL (Ev.catL (Ev.catL (Ev.catL (Ev.catL (Ev.catL (Ev.catL (Bj (xs:=[[]]) (Ah (Ar (x:=[]) (by rfl) Zb) Aq) Zb) (Bw g_law_ends v_law_ends m28_law_ends (by decide)) Zb) (Bw gO gG mA (by decide)) Zb) (Bw kA jN m28_law_where (by decide)) Zb) (Bw jZ jM m28_law_which (by decide)) Zb) (Bw lP lG m28_law_ones (by decide)) Zb) (Bw gP gH mB (by decide)) Zb) (Bw kC jP m28_law_stays (by decide)) Zb) (Bw hU gX nC (by decide)) Zb) (Bw kB jO m28_law_verbs (by decide)) Zb) (Bj (xs:=[[108],[117,110]]) (Ah (Ar (x:=[108]) (by rfl) Zb) (Ah (Ar (x:=[117,110]) (by rfl) Zb) Aq)) Zb) Zb) rfl) lL Zn (by rfl))
theorem w2_a {d:Nat} {ns:List Int} {n1:Int} {sh:T×T} (hl:ns.length≤100) (h0:1 < ns.length) (h1:ns[1]?=some n1) (hs:SHAP[(n1.fmod (SHAP.length:Int)).toNat]?=some sh):Ex (d+1) (aE (stM 28)) (nthS (aG (stM 28)) 2) ⟨[("numbers",.il ns),("closes",.tl CLOS)],.none⟩ .next ⟨[("numbers",.il ns),("closes",.tl CLOS),("shape",.pr sh)],.none⟩:=by
  have hS:(SHAP.length:Int) < 1000:=by decide
  obtain ⟨b1,b2⟩:=lR (a:=n1) (b:=(SHAP.length:Int)) (by decide)
  refine' (Bd (v:=.pr sh) (loc':=[("numbers",.il ns),("closes",.tl CLOS),("shape",.pr sh)]) (Ev.ifT (Ac (Ev.lenIl m28_len (Zm eH) (by lia)) Ae (eC (by lia))) (Ev.plIdx (Ev.callF0 iT hM gJ (by decide) (shap_ok _)) (Ev.mod (Ev.ilIdx (Zm eH) Ae (by lia) h1) (Ev.lenPl m28_len (Ev.callF0 iT hM gJ (by decide) (shap_ok _)) (by decide)) (by decide)) ⟨b1,by lia⟩ hs)) kL Zn (by rfl))
theorem w2_b {d:Nat} {ns:List Int} {sh:T×T} (hl:ns.length≤100) (h0:ns.length≤1) (hs:SHAP[0]?=some sh):Ex (d+1) (aE (stM 28)) (nthS (aG (stM 28)) 2) ⟨[("numbers",.il ns),("closes",.tl CLOS)],.none⟩ .next ⟨[("numbers",.il ns),("closes",.tl CLOS),("shape",.pr sh)],.none⟩:=by
  refine' (Bd (v:=.pr sh) (loc':=[("numbers",.il ns),("closes",.tl CLOS),("shape",.pr sh)]) (Ev.ifF (Ac (Ev.lenIl m28_len (Zm eH) (by lia)) Ae (dT (by lia))) (Ev.plIdx (Ev.callF0 iT hM gJ (by decide) (shap_ok _)) Ae (by lia) hs)) kL Zn (by rfl))
theorem w3 {d:Nat} {ns:List Int} {sh:T×T} (hl:ns.length≤100):Ex (d+1) (aE (stM 28)) (nthS (aG (stM 28)) 3) ⟨[("numbers",.il ns),("closes",.tl CLOS),("shape",.pr sh)],.none⟩ .next ⟨[("numbers",.il ns),("closes",.tl CLOS),("shape",.pr sh),("front",.str (((ns.drop 2).map pieceOf).flatten))],.none⟩:=by
  have hlim:lim=65536:=rfl
  have h1:=pieces_len (ns.drop 2)
  have h2:(ns.drop 2).length≤100:=by rw [List.length_drop]; lia
  have h3:((ns.drop 2).map pieceOf).length≤100000:=by rw [List.length_map]; lia
  have h4:((ns.drop 2).map pieceOf).flatten.length≤lim:=by lia
  refine' (Bd (v:=.str (((ns.drop 2).map pieceOf)).flatten) (loc':=[("numbers",.il ns),("closes",.tl CLOS),("shape",.pr sh),("front",.str (((ns.drop 2).map pieceOf)).flatten)]) (Ev.join (Ar (x:=[]) (by rfl) Zb) (Ev.compIl (by kernel_rfl) (by kernel_rfl) (by kernel_rfl) (by kernel_rfl) (by kernel_rfl) (Ev.ilFrom (k:=2) (Zm eH) Ae (by lia)) (by lia) (piece_run (by kernel_rfl) (by kernel_rfl) (by kernel_rfl) (ns.drop 2)) (fun _ _=>rfl)) h4 h3 (fun _=>⟨_,rfl⟩)) m28_front Zn (by rfl))
theorem w4 {d:Nat} {ns:List Int} {sh:T×T} {fr cl:T} {n0:Int} (hn:ns[0]?=some n0) (hcl:CLOS[(n0.fmod (CLOS.length:Int)).toNat]?=some cl) (b1:sh.1.length≤10) (b2:sh.2.length≤10) (b3:cl.length≤30):Ex (d+1) (aE (stM 28)) (nthS (aG (stM 28)) 4) ⟨[("numbers",.il ns),("closes",.tl CLOS),("shape",.pr sh),("front",.str fr)],.none⟩ (.ret (.str ((fr.take 14)++sh.1++cl++sh.2))) ⟨[("numbers",.il ns),("closes",.tl CLOS),("shape",.pr sh),("front",.str fr)],.none⟩:=by
  have hlim:lim=65536:=rfl
  have hC:(CLOS.length:Int) < 1000:=by decide
  obtain ⟨c1,c2⟩:=lR (a:=n0) (b:=(CLOS.length:Int)) (by decide)
  have hsl:Txt.slice (S fr) none (some (14:Int))=S (fr.take 14):=by rw [dX (by lia)]; rfl
  have hle:(fr.take 14).length≤fr.length:=by rw [List.length_take]; lia
  have h14:(fr.take 14).length≤14:=by rw [List.length_take]; lia
  have k1:((fr.take 14)++sh.1).length≤lim:=by rw [List.length_append]; lia
  have k2:((fr.take 14)++sh.1++cl).length≤lim:=by rw [List.length_append,List.length_append]; lia
  have k3:((fr.take 14)++sh.1++cl++sh.2).length≤lim:=by rw [List.length_append,List.length_append,List.length_append]; lia
  refine' (Ax (Ch (Ch (Ch (Ce (Zm m28_front) Ae hsl hle) (Ev.prFst (Zm kL) Ae) k1) (Ev.tlIdx (Zm lL) (Ev.mod (Ev.ilIdx (Zm eH) Ae (by lia) hn) (Ev.lenTl m28_len (Zm lL) (by decide)) (by decide)) ⟨c1,by lia⟩ hcl) k2) (Ev.prSnd (Zm kL) Ae) k3))
theorem shap_len {k:Nat} {sh:T×T} (h:SHAP[k]?=some sh):sh.1.length≤10∧sh.2.length≤10:=(by decide +kernel:∀ s∈SHAP,s.1.length≤10∧s.2.length≤10) sh (List.mem_of_getElem? h)
theorem clos_len {k:Nat} {cl:T} (h:CLOS[k]?=some cl):cl.length≤30:=(by decide +kernel:∀ s∈CLOS,s.length≤30) cl (List.mem_of_getElem? h)
theorem law_word_ok {d:Nat} {ns:List Int} (hl:ns.length≤100):∃ x:T,x.length≤1000∧∀ f,CallOK (d+2) 769 [.il ns] f (.str x) f:=by
  have e0:aG (stM 28)=[(nthS (aG (stM 28)) 0),(nthS (aG (stM 28)) 1),(nthS (aG (stM 28)) 2),(nthS (aG (stM 28)) 3),(nthS (aG (stM 28)) 4)]:=by kernel_rfl
  by_cases h:ns=[]
  · refine ⟨[],by simp,Cf (d:=d+1) nO rfl (.inl rfl) (?_:Exs (d+1) (aE (stM 28)) (aG (stM 28)) ⟨[("numbers",.il ns)],.none⟩ (.ret (.str ([]:T))) ⟨[("numbers",.il ns)],.none⟩)⟩
    rw [e0]
    exact Ab (w0_yes h) (by simp)
  · obtain ⟨n0,r,rfl⟩:=List.exists_cons_of_ne_nil h
    have hC:0 < (CLOS.length:Int):=by decide
    obtain ⟨c1,c2⟩:=lR (a:=n0) hC
    have hcl:CLOS[(n0.fmod (CLOS.length:Int)).toNat]?=some (CLOS[(n0.fmod (CLOS.length:Int)).toNat]'(by lia)):=List.getElem?_eq_getElem _
    have hsh:∃ sh,Ex (d+1) (aE (stM 28)) (nthS (aG (stM 28)) 2) ⟨[("numbers",.il (n0::r)),("closes",.tl CLOS)],.none⟩ .next ⟨[("numbers",.il (n0::r)),("closes",.tl CLOS),("shape",.pr sh)],.none⟩∧sh.1.length≤10∧sh.2.length≤10:=by
      cases r with
      | nil =>
        have hs:SHAP[0]?=some (([],[]):T×T):=rfl
        exact ⟨_,w2_b hl (by simp) hs,shap_len hs⟩
      | cons n1 r =>
        have hS:0 < (SHAP.length:Int):=by decide
        obtain ⟨s1,s2⟩:=lR (a:=n1) hS
        have hs:SHAP[(n1.fmod (SHAP.length:Int)).toNat]?=some (SHAP[(n1.fmod (SHAP.length:Int)).toNat]'(by lia)):=List.getElem?_eq_getElem _
        exact ⟨_,w2_a hl (by simp) rfl hs,shap_len hs⟩
    obtain ⟨sh,hex,b1,b2⟩:=hsh
    have b3:=clos_len hcl
    refine ⟨(((((n0::r).drop 2).map pieceOf).flatten).take 14)++sh.1++(CLOS[(n0.fmod (CLOS.length:Int)).toNat]'(by lia))++sh.2,?_,Cf (d:=d+1) nO rfl (.inl rfl) (?_:Exs (d+1) (aE (stM 28)) (aG (stM 28)) ⟨[("numbers",.il (n0::r))],.none⟩ (.ret (.str _)) ⟨[("numbers",.il (n0::r)),("closes",.tl CLOS),("shape",.pr sh),("front",.str ((((n0::r).drop 2).map pieceOf).flatten))],.none⟩)⟩
    · have h14:((((n0::r).drop 2).map pieceOf).flatten.take 14).length≤14:=by rw [List.length_take]; lia
      rw [List.length_append,List.length_append,List.length_append]
      lia
    · rw [e0]
      exact Aa (w0_no h) (Aa w1 (Aa hex (Aa (w3 hl) (Ab (w4 rfl hcl b1 b2 b3) (by simp)))))
theorem mem_frames {env:Env} {outer:List Env} {L b:Addr} (hf:env.frame=some L) (hm:b∈(env::outer).filterMap (·.frame)):b=L∨b∈outer.filterMap (·.frame):=by
  obtain ⟨e,he,h⟩:=List.mem_filterMap.mp hm
  rcases List.mem_cons.mp he with rfl | he
  · rw [hf] at h
    exact .inl (Option.some.inj h).symm
  · exact .inr (List.mem_filterMap.mpr ⟨e,he,h⟩)
theorem backX {A₀ A:Around} {s:Shared} {base h₀:Heap} {outer:List Env} {L:Addr} {m:Str→Option Value} {env:Env} {news:List (Addr×Obj)} (B:Below A₀ base outer h₀) (F:Fr h₀ L s.heap m) (N:News h₀ L s.heap news)
    (D:KtsDicts (outer.filterMap (·.frame)) h₀) (hA:A.frames=some (env::outer)) (hf:env.frame=some L) (hke:env.scope.kind=.function) :
    Below A base (env::outer) (hideAll s.heap (news.map (·.1)))∧KtsDicts ((env::outer).filterMap (·.frame)) (hideAll s.heap (news.map (·.1))) ∧
      ∀ (h' g':Heap) (L':Addr) (m':Str→Option Value) (news':List (Addr×Obj)),KtsTurn ((env::outer).filterMap (·.frame)) (hideAll s.heap (news.map (·.1))) g'→Fr g' L' h' m'→News g' L' h' news' →
        ∃ h₀',KtsTurn (outer.filterMap (·.frame)) h₀ h₀'∧Fr h₀' L h' m∧News h₀' L h' news'∧Below A₀ base outer h₀':=by
  obtain ⟨FG,BG,st,-⟩:=groundX (R:=fun _ _=>True) B F N hA hf hke
  generalize hideAll s.heap (news.map (·.1))=G at FG BG st ⊢
  obtain ⟨oL,es,ep,hLg,hLd,hLk,hLf⟩:=FG.ns
  refine ⟨BG,fun b hb=>?_,fun h' g' L' m' news' T' F' N'=>?_⟩
  · rcases mem_frames hf hb with rfl | hb
    · exact ⟨oL,es,ep,hLg,hLd⟩
    · obtain ⟨o,es',n',ho',hd'⟩:=D b hb
      exact ⟨o,es',n',st b o ho',hd'⟩
  · have nL₀:h₀.get? L=none:=kts_self F
    obtain ⟨sl,hs⟩:=T'.up hLg
    obtain ⟨T₁,S₁⟩:=kts_turn_at (h:=h') (fs:=outer.filterMap (·.frame)) (g:=h₀)
      (fun b hb=>by
        obtain ⟨_,o,ho',_⟩:=B.frames.mem hb
        exact ⟨o,ho'⟩)
      (fun b o e nmem=>F'.keep b o (T'.other b o (st b o e) (fun q=>by
        rcases mem_frames hf q with z | z
        · rw [z,nL₀] at e
          cases e
        · exact nmem z)))
      (fun b o e hm=>by
        obtain ⟨sl',hs'⟩:=T'.up (st b o e)
        exact ⟨sl',F'.keep _ _ hs'⟩)
    have B₃:Below A₀ base outer (ktsHeap h' (outer.filterMap (·.frame)) h₀):=⟨B.stack,fun b o e=>T₁.other b o (B.stays b o e) (fun hm=>by
      rw [(B.frames.mem hm).1] at e
      cases e),B.frames.of_keeps fun b o e _=>by
      obtain ⟨sl',hs'⟩:=T₁.up e
      exact ⟨_,hs',rfl⟩⟩
    refine ⟨_,T₁,⟨⟨_,es,ep,F'.keep _ _ hs,hLd,hLk,hLf⟩,S₁,by rw [T₁.size]; exact F.above⟩,fun p hp=>⟨(N' p hp).1,fun q=>?_,?_⟩,B₃⟩
    · have:=(N' p hp).2.2; rw [q,hs] at this; cases this
    · refine T₁.none_ _ ?_
      cases q:h₀.get? p.1 with
      | none=>rfl
      | some o =>
        obtain ⟨sl',hs'⟩:=T'.up (st _ _ q)
        have:=(N' p hp).2.2
        rw [hs'] at this
        cases this
theorem call_from {d:Nat} {fa:Addr} {name qual:Str} {ps:List Str} {body:List Stmt} {scope:Scope} {args:List SV} {f:Mu} {fl:Fl} {v:SV} {st':Sx} (FI:FnIs fa name qual ps body scope) (hl:args.length=ps.length)
    (h:Exs d scope body ⟨ps.zip args,f⟩ fl st') (hv:fl=.ret v∨(fl=.next∧v=.none)) {c:Cx} {A:Around} {e₁:Env} (hf:e₁.frame=some c.L) (hke:e₁.scope.kind=.function) (hA:A.frames=some (e₁::c.outer)) (hh:A.handled=none) (R:A.depth+(d+1) < recursionLimit∧A.units+3 * (d+1)+40≤cLine) {imm:List (Addr×Obj)} {s:Shared} {loc:Loc} {Vs:List Value}
    (O:CxOK c) (I:Inv c imm ⟨loc,f⟩ s) (hargs:All2 (VR c.P imm) args Vs) :
    codeAny c.M A (.call (.ref fa) ⟨Vs,[]⟩) (fun r s'=>match r with | .ok (.ret V)=>QV c imm ⟨loc,st'.f⟩ v V s' | _=>False) s:=by
  obtain ⟨g,m,mt,T,F,N,B,D,MO,ND,LO⟩:=id I.ex
  obtain ⟨params,dV,kV,doc,pm,cdv,ct,oc,an,od,osl,hk,hcd,hbind⟩:=FI.look c.P
  have hVl:Vs.length=ps.length:=by rw [← hargs.length]; exact hl
  have X:=(Inv.X O B).keeps F.keep
  obtain ⟨B₂,D₂,back⟩:=backX B F N D hA hf hke
  refine codeAny_call_def (prog:=pw) (w:=c.w) (fd:=fnOf name qual params body scope dV kV doc pm an cdv ct) (body:=body) (binds:=ps.zip Vs) (by have:=R.1; exact Nat.lt_of_le_of_lt (Nat.le_add_right _ (d+1)) this) (X _ _ hk) rfl ((O.TB.keeps B.stays).nolimit.keeps F.keep) (codeRec_of X hcd) rfl (hbind s Vs hVl) FI.cell
    (fun y hy=>FI.loc _ (List.of_mem_zip hy).1) (fun h₁ hns hk₁=>?_) FI.co FI.gen FI.kind
  let c':Cx:={ c with A₀:=A,outer:=e₁::c.outer,qual:=qual,scope:=scope,L:=s.heap.objs.size,fa:=fa,cd:=cdv,g₀:=hideAll s.heap ((mt++(imm++c.rest)).map (·.1)) }
  have O':CxOK c':=⟨O.XB,O.TB,FI.kind,hh⟩
  have R':Room c' d:=⟨by have:=R.1; show A.depth+1+d < _; lia,by have:=R.2; show A.units+3+3 * d+40≤_; lia⟩
  have I':Inv c' imm ⟨ps.zip args,f⟩ { s with heap:=h₁,toks:=s.toks+(ps.zip Vs).length }:=by
    refine ⟨I.sh,_,_,mt,KtsTurn.refl,⟨hns,fun b o e=>hk₁ b o (of_hideAll _ e),Nat.le_of_eq (hideAll_size _ _)⟩,
      (fun p hp=>⟨hk₁ _ _ (N p hp).1,Nat.ne_of_lt (Heap.lt_size (N p hp).1),hideAll_none _ (List.mem_map_of_mem hp)⟩),B₂,D₂,MO,ND,mN FI.nodup hl hargs⟩
  refine wpAny_mono (h.run c' imm _ O' R' rfl I') (fun F₁ s₁ q=>?_) fun e s₁ q=>?_
  · have fin:∀ imm₁ V,Ext imm imm₁→Inv c' imm₁ st' s₁→VR c.P imm₁ v V→QV c imm ⟨loc,st'.f⟩ v V s₁:=fun imm₁ V x₁ I₁ hV=>by
      obtain ⟨g₂,m₂,mt₂,T₂,F₂,N₂,_,_,MO₂,ND₂,LO₂⟩:=id I₁.ex
      obtain ⟨h₀',T₃,F₃,N₃,B₃⟩:=back _ _ _ _ _ T₂ F₂ N₂
      refine ⟨imm₁,x₁,⟨I₁.sh,h₀',m,mt₂,T.trans T₃,F₃,N₃,B₃,D.turn T₃,MO₂,ND₂,fun x v e=>?_⟩,hV⟩
      obtain ⟨W,a,b⟩:=LO x v e
      exact ⟨W,a,b.mono x₁.mem⟩
    rcases hv with rfl | ⟨rfl,rfl⟩
    · obtain ⟨V,rfl,imm₁,x₁,I₁,q₁⟩:=q
      exact fin imm₁ V x₁ I₁ q₁
    · obtain ⟨rfl,imm₁,x₁,I₁⟩:=q
      exact fin imm₁ .none x₁ I₁ rfl
  · rcases hv with rfl | ⟨rfl,rfl⟩ <;> exact q.elim
theorem comp_one {cs:Scope} {cl:List (Str×Addr)} {x:Str} {px:Pos} {iter elt:Expr} {pos:Pos} {c:Cx} {A:Around} {e₁:Env} {imm:List (Addr×Obj)} {st st':Sx} {s:Shared} {w y:T} {V:Value} {Q E:Value→Shared→Prop}
    (O:CxOK c) (hA:A.handled=none) (hk:cs.kind=.function) (hcell:fZ cs=true) (hx:cs.names.lookup x=some .local) (I:Inv c imm st s) (hV:VR c.P imm (.tl [w]) V)
    (elt_ok:∀ (c':Cx) (C:Addr) (oC:Obj) (m:Str→Option Value) (imm':List (Addr×Obj)) (s':Shared) (W:Value),c'={ c with rest:=c'.rest }→(∀ p∈c.rest,p∈c'.rest)→(C,oC)∈c'.rest→NsO oC m→m x=some W→StrV w W→Inv c' imm' st s' →
      wpAny c.M A (eval elt (compEnvC cs cl C e₁)) (QV c' imm' st' (.str y)) NoE s')
    (hQ:∀ W s' imm',Ext imm imm'→Inv c imm' st' s'→VR c.P imm' (.tl [y]) W→Q W s') :
    wpAny c.M A (pyIter V) (fun it s₂=>wpAny c.M A (newList []) (fun acc s₃ =>
      wpAny c.M A (newFunctionEnv cs e₁.globals cl [] e₁.qual none .none (some e₁)) (fun cenv s₄ =>
        codeAny c.M A (.compStart (.ListComp elt [⟨.Name x px,iter,[],0⟩] cs pos) 0 it acc { cenv with scope:=relabel cs e₁ }) (compPost c.M A E none Q acc cenv.locals) s₄) E s₃) E s₂) E s:=by
  obtain ⟨vs,⟨a,oa,na,rfl,hin,ha1,ha2⟩,hAll⟩:=hV
  have hin:=inH_any O hin
  have atA:∀ {r:List (Addr×Obj)} {i:List (Addr×Obj)} {st₁:Sx} {t:Shared},(∀ p∈c.rest,p∈r)→Ext imm i→Inv { c with rest:=r } i st₁ t→t.heap.get? a=some oa:=fun {r i st₁ t} hr xi J=>by
    rcases hin with h | h | h
    · exact J.immAt (xi.mem _ h)
    · exact Inv.stays (s:=t) J a oa h
    · exact J.restAt (hr _ h)
  have ho:s.heap.get? a=some oa:=atA (fun _ h=>h) .refl (r:=c.rest) I
  have hL:s.heap.IsList a vs:=⟨oa,ho,ha1,na,ha2⟩
  have hne:a≠s.heap.objs.size:=Nat.ne_of_lt (Heap.lt_size ho)
  have hsz:vs.size=1:=by have:=hAll.length; simpa using this.symm
  have hWk:=Walks.list (prog:=pw) (w:=c.w) (A:=A) hA s.heap.objs.size a hne vs
  rw [hsz] at hWk
  refine wpAny_pyIter_list hL ?_
  have h0:(fun (i:Nat) (h:Heap)=>h.IsListIter s.heap.objs.size a i∧h.IsList a vs) 0 (s.heap.push { cls:=.type "list_iterator",data:=.fields #[.ref a,.int 0 0] }):=⟨⟨_,Heap.get?_push_size _ rfl,rfl,rfl⟩,hL.push _⟩
  have hI:∀ (i:Nat) (h:Heap),(h.IsListIter s.heap.objs.size a i∧h.IsList a vs)→∃ o,h.get? s.heap.objs.size=some o:=fun i h q=>let ⟨⟨o,ho,_⟩,_⟩:=q; ⟨o,ho⟩
  have I1:=I.own { cls:=.type "list_iterator",data:=.fields #[.ref a,.int 0 0] } rfl
  revert h0 I1
  generalize ({ cls:=.type "list_iterator",data:=.fields #[.ref a,.int 0 0] }:Obj)=oI
  intro h0 I1
  refine wpAny_newObj_type ?_ (by show (0:Nat)≤sizeLine; exact Nat.zero_le _)
  have I2:=I1.own { cls:=.type "list",data:=.seq ([]:List Value).toArray } rfl
  refine wpAny_newFunctionEnv (cell_of hcell) (by intro y hy; simp at hy) (fun h₁ hns₁ hsb₁=>?_) hk
  have I3:=I2.own { cls:=.type "dict",data:=.dict #[] } rfl
  obtain ⟨oC,hoC,hN⟩:=nsO_of hns₁
  have e1:(s.heap.push oI).objs.size=s.heap.objs.size+1:=Heap.size_push ..
  have e2:((s.heap.push oI).push { cls:=.type "list",data:=.seq ([]:List Value).toArray }).objs.size=s.heap.objs.size+2:=by rw [Heap.size_push,e1]
  have I4:Inv (dG c s.heap.objs.size ((s.heap.push oI).push { cls:=.type "list",data:=.seq ([]:List Value).toArray }).objs.size (s.heap.push oI).objs.size oI oC { cls:=.type "list",data:=.seq ([]:List Value).toArray }) imm st { s with heap:=h₁ }:=by
    have I3':=I3.perm (c:=Cx.plus (Cx.plus (Cx.plus c _) _) _) (r:=(s.heap.objs.size,oI)::(((s.heap.push oI).push { cls:=.type "list",data:=.seq ([]:List Value).toArray }).objs.size,{ cls:=.type "dict",data:=.dict #[] })::((s.heap.push oI).objs.size,{ cls:=.type "list",data:=.seq ([]:List Value).toArray })::c.rest) (by
      show List.Perm (_::_::_::c.rest) _
      exact (List.perm_append_comm (l₁:=[_,_]) (l₂:=[_])).append_right c.rest)
    refine I3'.turn1 (r':=(s.heap.objs.size,oI)::(((s.heap.push oI).push { cls:=.type "list",data:=.seq ([]:List Value).toArray }).objs.size,oC)::((s.heap.push oI).objs.size,{ cls:=.type "list",data:=.seq ([]:List Value).toArray })::c.rest) rfl (List.mem_cons_of_mem _ List.mem_cons_self) (fun p hp=>?_) rfl (fun b q hb e=>(hsb₁.2 b hb).trans e) hoC s.toks
    have nd:=I3'.restND
    simp only [List.map_cons,List.nodup_cons,List.mem_cons,not_or] at nd
    rcases List.mem_cons.mp hp with rfl | hp
    · exact .inl ⟨List.mem_cons_self,nd.1.1⟩
    · rcases List.mem_cons.mp hp with rfl | hp
      · exact .inr rfl
      · refine .inl ⟨List.mem_cons_of_mem _ (List.mem_cons_of_mem _ hp),?_⟩
        rcases List.mem_cons.mp hp with rfl | hp
        · exact fun q=>nd.2.1.1 q.symm
        · exact fun q=>nd.2.1.2 (q▸List.mem_map.mpr ⟨p,hp,rfl⟩)
  have hst:=hWk.frame 0 _ h₁ h0 fun b hb q e=>by
    have hlt:b < s.heap.objs.size+1:=by rw [← e1]; exact Heap.lt_size e
    refine (hsb₁.2 b ?_).trans (Heap.get?_push_of_some _ (Heap.get?_push_of_some _ e))
    show b≠((s.heap.push oI).push _).objs.size
    rw [e2]
    exact Nat.ne_of_lt (Nat.lt_trans hlt (Nat.lt_succ_self _))
  have hIC:s.heap.objs.size≠((s.heap.push oI).push { cls:=.type "list",data:=.seq ([]:List Value).toArray }).objs.size:=by rw [e2]; exact Nat.ne_of_lt (Nat.lt_add_of_pos_right (by decide))
  have hID:s.heap.objs.size≠(s.heap.push oI).objs.size:=by rw [e1]; exact Nat.ne_of_lt (Nat.lt_succ_self _)
  have hCD:((s.heap.push oI).push { cls:=.type "list",data:=.seq ([]:List Value).toArray }).objs.size≠(s.heap.push oI).objs.size:=by rw [e1,e2]; exact Nat.ne_of_gt (Nat.lt_succ_self _)
  have loop:∀ s₂:Shared,s₂={ s with heap:=h₁,toks:=s.toks+([]:List (Str×Value)).length } →
      codeAny c.M A (.compLoop (.ListComp elt [⟨.Name x px,iter,[],0⟩] cs pos) 0 (.ref s.heap.objs.size) (.ref (s.heap.push oI).objs.size) (compEnvC cs cl ((s.heap.push oI).push { cls:=.type "list",data:=.seq ([]:List Value).toArray }).objs.size e₁))
        (compPost c.M A E none Q (.ref (s.heap.push oI).objs.size) ((s.heap.push oI).push { cls:=.type "list",data:=.seq ([]:List Value).toArray }).objs.size) s₂:=by
    rintro s₂ rfl
    have J4:=I4.tok (s.toks+([]:List (Str×Value)).length)
    clear I1 I2 I3 hns₁ hsb₁ I4 h0 hoC
    revert hIC hID hCD hWk hI hst J4
    generalize s.heap.objs.size=Ia
    generalize ((s.heap.push oI).push { cls:=.type "list",data:=.seq ([]:List Value).toArray }).objs.size=Ca
    generalize (s.heap.push oI).objs.size=Da
    intro hWk hI hst hIC hID hCD J4
    have nd:∀ {oI oC oD:Obj} {im:List (Addr×Obj)} {st₁:Sx} {t:Shared},Inv (dG c Ia Ca Da oI oC oD) im st₁ t→∀ p∈c.rest,p.1≠Ia∧p.1≠Ca∧p.1≠Da:=fun {oI oC oD im st₁ t} J p hp=>by
      have h1:=J.restND
      simp only [dG,List.map_cons,List.nodup_cons,List.mem_cons,not_or] at h1
      have hpm:p.1∈c.rest.map (·.1):=List.mem_map.mpr ⟨p,hp,rfl⟩
      exact ⟨fun q=>h1.1.2.2 (q▸hpm),fun q=>h1.2.1.2 (q▸hpm),fun q=>h1.2.2.1 (q▸hpm)⟩
    have up:∀ {oI oC oD:Obj},∀ p∈c.rest,p∈(dG c Ia Ca Da oI oC oD).rest:=fun p hp=>List.mem_cons_of_mem _ (List.mem_cons_of_mem _ (List.mem_cons_of_mem _ hp))
    refine codeAny_compLoop_tests (prog:=pw) (w:=c.w)
      (fun k s'=>(k=2∧∃ oI₁ oC₁ m oD j,Inv (dG c Ia Ca Da oI₁ oC₁ oD) imm st s'∧NsO oC₁ m∧oD.cls=.type "list" ∧ oD.dict=none∧oD.data=.seq #[] j∧(s'.heap.IsListIter Ia a 0∧s'.heap.IsList a vs)) ∨
        (k=1∧∃ imm₁ oI₁ oC₁ m oD zs j,Ext imm imm₁∧Inv (dG c Ia Ca Da oI₁ oC₁ oD) imm₁ st' s'∧NsO oC₁ m∧oD.cls=.type "list" ∧ oD.data=.seq zs j∧All2 StrV [y] zs.toList∧(s'.heap.IsListIter Ia a 1∧s'.heap.IsList a vs))) ?_ 2
      (.inl ⟨rfl,oI,oC,_,_,0,J4,hN,rfl,rfl,rfl,hst⟩) Zn
    rintro k s₁ (⟨rfl,oI₁,oC₁,m₁,oD₁,j,I₁,hN₁,hD1,hD2,hD3,hst⟩ | ⟨rfl,imm₁,oI₁,oC₁,m₁,oD₁,zs,j,x₁,I₁,hN₁,hD1,hD3,hA1,hst⟩)
    · refine hWk.item 0 _ _ _ (by decide) hst fun W h₂ tk₂ hPV hst₂ hk₂=>?_
      obtain ⟨oI₂,hoI₂⟩:=hI _ _ hst₂
      have nd₁:=nd I₁
      have I₂:Inv (dG c Ia Ca Da oI₂ oC₁ oD₁) imm st { s₁ with heap:=h₂,toks:=tk₂ } :=
        I₁.turn1 (c:=dG c Ia Ca Da oI₁ oC₁ oD₁) (r':=(Ia,oI₂)::(Ca,oC₁)::(Da,oD₁)::c.rest) (a:=Ia) (o:=oI₁) (o':=oI₂) rfl List.mem_cons_self (fun p hp=>by
          rcases List.mem_cons.mp hp with rfl | hp
          · exact .inr rfl
          · refine .inl ⟨List.mem_cons_of_mem _ hp,?_⟩
            rcases List.mem_cons.mp hp with rfl | hp
            · exact Ne.symm hIC
            · rcases List.mem_cons.mp hp with rfl | hp
              · exact Ne.symm hID
              · exact (nd₁ p hp).1) rfl (fun b q hb=>hk₂ b q (by simpa using hb)) hoI₂ tk₂
      have hC₂:=I₂.restAt (p:=(Ca,oC₁)) (List.mem_cons_of_mem _ List.mem_cons_self)
      refine wpAny_assign_Name (wpAny_storeName_local (env:=compEnvC cs cl Ca e₁) (lookup_relabel_local hx) (hN₁.ns hC₂) (fun h₃ hn₃ hs₃=>?_) (by show (cs.kind == .class || (cs.kind == .module && _))=false; rw [hk]; rfl))
      obtain ⟨oC₃,hoC₃,hN₃⟩:=nsO_of hn₃
      have I₃:∀ n',Inv (dG c Ia Ca Da oI₂ oC₃ oD₁) imm st { s₁ with heap:=h₃,toks:=n' }:=fun n' =>
        I₂.turn1 (c:=dG c Ia Ca Da oI₂ oC₁ oD₁) (r':=(Ia,oI₂)::(Ca,oC₃)::(Da,oD₁)::c.rest) (a:=Ca) (o:=oC₁) (o':=oC₃) rfl (List.mem_cons_of_mem _ List.mem_cons_self) (fun p hp=>by
          rcases List.mem_cons.mp hp with rfl | hp
          · exact .inl ⟨List.mem_cons_self,hIC⟩
          · rcases List.mem_cons.mp hp with rfl | hp
            · exact .inr rfl
            · refine .inl ⟨List.mem_cons_of_mem _ (List.mem_cons_of_mem _ hp),?_⟩
              rcases List.mem_cons.mp hp with rfl | hp
              · exact Ne.symm hCD
              · exact (nd₁ p hp).2.1) rfl (fun b q hb e=>(hs₃.2 b hb).trans e) hoC₃ n'
      have hW:StrV w W:=lB hAll rfl hPV
      refine wpAny_tests_nil ?_
      rw [if_pos rfl]
      refine wpAny_mono (elt_ok (dG c Ia Ca Da oI₂ oC₃ oD₁) Ca oC₃ _ imm _ W rfl up (List.mem_cons_of_mem _ List.mem_cons_self) hN₃ (by simp) hW (I₃ _)) (fun Y s₄ q=>?_) fun _ _ f=>f.elim
      obtain ⟨imm₄,x₄,I₄,hY⟩:=q
      have hD₄:=I₄.restAt (p:=(Da,oD₁)) (List.mem_cons_of_mem _ (List.mem_cons_of_mem _ List.mem_cons_self))
      refine list_append_plainL (hsz:=Nat.zero_le _) ⟨oD₁,j,hD₄,hD1,hD2,hD3⟩ fun h₅ hl₅ hs₅=>?_
      obtain ⟨oD₅,j₅,e5,d1,d2,d3⟩:=hl₅
      have nd₄:=nd I₄
      have I₅:Inv (dG c Ia Ca Da oI₂ oC₃ oD₅) imm₄ st' { s₄ with heap:=h₅ } :=
        I₄.turn1 (c:=dG c Ia Ca Da oI₂ oC₃ oD₁) (r':=(Ia,oI₂)::(Ca,oC₃)::(Da,oD₅)::c.rest) (a:=Da) (o:=oD₁) (o':=oD₅) rfl (List.mem_cons_of_mem _ (List.mem_cons_of_mem _ List.mem_cons_self)) (fun p hp=>by
          rcases List.mem_cons.mp hp with rfl | hp
          · exact .inl ⟨List.mem_cons_self,hID⟩
          · rcases List.mem_cons.mp hp with rfl | hp
            · exact .inl ⟨List.mem_cons_of_mem _ List.mem_cons_self,hCD⟩
            · rcases List.mem_cons.mp hp with rfl | hp
              · exact .inr rfl
              · exact .inl ⟨List.mem_cons_of_mem _ (List.mem_cons_of_mem _ (List.mem_cons_of_mem _ hp)),(nd₄ p hp).2.2⟩) rfl (fun b q hb e=>(hs₅.2 b hb).trans e) e5 s₄.toks
      refine ⟨1,by decide,.inr ⟨rfl,imm₄,oI₂,oC₃,_,oD₅,_,j₅,x₄,I₅,hN₃,d1,d3,?_,?_⟩⟩
      · show All2 StrV [y] ((#[]:Array Value).push Y).toList
        exact .cons hY .nil
      · refine hWk.frame 1 _ _ hst₂ fun b hb q e=>?_
        simp at hb
        rcases hb with rfl | rfl
        · have e1:=I₂.restAt (p:=(b,oI₂)) List.mem_cons_self
          have e2:=I₅.restAt (p:=(b,oI₂)) List.mem_cons_self
          rw [e] at e1
          cases e1
          exact e2
        · have e1:=atA up .refl I₂
          have e2:=atA up x₄ I₅
          rw [e] at e1
          cases e1
          exact e2
    · refine hWk.done _ _ _ hst fun h' tk hkp=>?_
      have J:=I₁.gone (c:=dG c Ia Ca Da oI₁ oC₁ oD₁) (r:=(Ca,oC₁)::(Da,oD₁)::c.rest) rfl (fun b q hb=>hkp b q (by simpa using hb)) tk
      refine ⟨m₁,hN₁.ns (J.restAt (p:=(Ca,oC₁)) List.mem_cons_self),fun h'' hs''=>?_⟩
      have J1:=J.gone (c:=cRest2 c Ca Da oC₁ oD₁) (r:=(Da,oD₁)::c.rest) rfl (fun b q hb e=>(hs''.2 b hb).trans e) tk
      have J2:=J1.toImm (r:=c.rest) rfl
      exact hQ _ _ _ (x₁.trans ⟨[_],rfl⟩) J2 ⟨zs,⟨_,oD₁,j,rfl,.inl List.mem_cons_self,hD1,hD3⟩,hA1⟩
  exact codeAny_compStart_list (loop _ rfl) (hWk.self 0 _ _ _ hst (loop _ rfl))
noncomputable def SWB (w w':T):Prop:=∀ (cur:T) (c lm lb bra ket:Int),∃ c' bra' ket':Int,∀ {d:Nat} {x dx:Addr},∃ st':Sx,st'.f=.some (x,dx,FF w' c' w'.length 0 bra' ket') ∧
  Exs (d+5) (aE (stC 2 22)) (aG (stC 2 22)) ⟨[("self" : Str),("word" : Str)].zip [.self x,.str w],.some (x,dx,FF cur c lm lb bra ket)⟩ (.ret (.str w')) st'
theorem stemWord_body {w w':T} (h:PS w w'):SWB w w':=fun cur c lm lb bra ket=>by
  obtain ⟨b,k1,k2,k3,h⟩:=h 0 w.length
  refine ⟨k1,k2,k3,fun {d x dx}=>⟨_,?_,Aa (Bg (Av (Zm fJ) (by rfl) (by rfl) hH (Ah (Zm n2_22_word) Aq) set_cur (fun _=>⟨_,rfl⟩)) (by rfl) Zn) (Aa (Bg (Aw (Zm fJ) (by rfl) (by rfl) m__stem h (fun _=>⟨_,rfl⟩)) (by rfl) Zn) (Ab (Ax (Aw (Zm fJ) (by rfl) (by rfl) kK get_cur (fun _=>⟨_,rfl⟩))) (by simp)))⟩⟩
  rfl
noncomputable def csW:Scope:=⟨.function,[(".0",.local),("word",.local),("self",.free)],false,false,[]⟩
noncomputable def eltW:Expr:=.Call (.Attribute (.Name "self" ⟨195,16,195,20⟩) "stemWord" ⟨195,16,195,29⟩) [.Name "word" ⟨195,30,195,34⟩] [] ⟨195,16,195,35⟩
theorem body_W:aG (stC 2 23)=[.Return (some (.ListComp eltW [⟨.Name "word" ⟨195,40,195,44⟩,.Name "words" ⟨195,48,195,53⟩,[],0⟩] csW ⟨195,15,195,54⟩)) ⟨195,8,195,54⟩]:=by kernel_rfl
noncomputable def scW:Scope:=⟨.function,[("self",.cell),("words",.local)],false,false,[("fast",.str "self"),("fast",.str "words"),("fast",.str "word")]⟩
theorem scope_W:aE (stC 2 23)=scW:=by kernel_rfl
theorem look_W (P:Params):∃ params dV kV doc pm cdv ct oc an od osl,(Mine.KK P).lookup 194=some ⟨oc,od,.func (fnOf (dU (stC 2 23)) "BaseStemmer.stemWords" params (aG (stC 2 23)) (aE (stC 2 23)) dV kV doc pm an cdv ct),osl⟩∧codeIn (Mine.KK P) cdv "BaseStemmer.stemWords" = true ∧
    ∀ (s:Shared) (vals:List Value),vals.length=[("self" : Str),("words" : Str)].length→BindsTo s (fnOf (dU (stC 2 23)) "BaseStemmer.stemWords" params (aG (stC 2 23)) (aE (stC 2 23)) dV kV doc pm an cdv ct) ⟨vals,[]⟩ ([("self" : Str),("words" : Str)].zip vals) :=
  ⟨(fdOf P 194).params,(fdOf P 194).defaults,(fdOf P 194).kwdefaults,(fdOf P 194).doc,(fdOf P 194).pyModule,(fdOf P 194).code,(fdOf P 194).closureTuple,.type "function",(fdOf P 194).annotations,none,#[],by kernel_rfl,by kernel_rfl,bind2 (by intros; kernel_rfl)⟩
theorem m_stemWords:MethIs "stemWords" 194 where
  get:=fun P=>⟨by kernel_rfl,by kernel_rfl,by kernel_rfl,by kernel_rfl⟩
theorem clos_W {e:Env} {a:Addr} (h:e.cells.lookup ("self" : Str)=some a):closureFor csW e=pure [(("self" : Str),a)]:=by
  unfold closureFor cellOf csW
  simp [h]
theorem names_W:∀ x∈csW.names,x.2=.local→csW.names.lookup x.1=some .local:=by
  intro x hx
  simp only [csW,List.mem_cons,List.not_mem_nil,or_false] at hx
  rcases hx with rfl | rfl | rfl <;> intro h <;> first | rfl | cases h
theorem stemWords_ok {w w':T} (h:SWB w w'):∀ (cur:T) (c lm lb bra ket:Int),∃ c' bra' ket':Int,∀ {d:Nat} {x dx:Addr},
    CallOK (d+8) 194 [.self x,.tl [w]] (.some (x,dx,FF cur c lm lb bra ket)) (.tl [w']) (.some (x,dx,FF w' c' w'.length 0 bra' ket')):=fun cur cc lm lb bra ket=>by
  obtain ⟨k1,k2,k3,hb⟩:=h cur cc lm lb bra ket
  refine ⟨k1,k2,k3,fun {d x dx}=>.mk fun c imm s loc Vs O R I hargs=>?_⟩
  obtain ⟨st₁,hst,hex⟩:=@hb d x dx
  cases hargs with
  | cons hv1 hr =>
  cases hr with
  | @cons _ Vl _ _ hv2 hr =>
  cases hr
  cases hv1
  obtain ⟨g,m,mt,T,F,N,B,D,MO,ND,LO⟩:=id I.ex
  obtain ⟨params,dV,kV,doc,pm,cdv,ct,oc,an,od,osl,hk,hcd,hbind⟩:=look_W c.P
  rw [body_W,scope_W] at hk hbind
  have X:=(Inv.X O B).keeps F.keep
  have hA:c.A.frames=some (c.env::c.outer):=Around.frames_deeper B.stack
  obtain ⟨B₂,D₂,back⟩:=backX B F N D hA rfl O.kind
  refine codeAny_call_function (prog:=pw) (w:=c.w) (by have:=R.1; lia) (X _ _ hk) rfl rfl rfl rfl (codeRec_of X hcd) (hbind s [.ref x,Vl] rfl _ _ _ _ ?_)
  refine wpAny_newFunctionEnv_cells rfl (kindsX (binds:=[(("self" : Str),Value.ref x),(("words" : Str),Vl)]) (by kernel_rfl) _) fun env' he s' xx=>?_
  subst he
  refine ⟨((O.TB.keeps B.stays).nolimit.keeps F.keep).keeps xx.toInCall.keep,codeAny_func ?_⟩
  obtain ⟨h₁,tk,rfl,_⟩:=xx.done
  have hk₁:=xx.toInCall.keep
  obtain ⟨oc₁,hoc₁,hd₁⟩:h₁.IsCell (s.heap.objs.size+1) (some (.ref x)):=xx.cell "self" (s.heap.objs.size+1) rfl
  have hns:h₁.Ns s.heap.objs.size (fun y=>if y = "words" then some Vl else none):=xx.toInCall.ns
  have hLc:(s.heap.objs.size+1)≠s.heap.objs.size:=Nat.succ_ne_self _
  have hfr:s.heap.get? (s.heap.objs.size+1)=none:=Heap.get?_none_of_le (Nat.le_succ _)
  let c₁:Cx:={ c with A₀:=c.A,outer:=c.env::c.outer,qual := "BaseStemmer.stemWords",scope:=scW,L:=s.heap.objs.size,fa:=194,cd:=cdv,g₀:=hideAll s.heap ((mt++(imm++c.rest)).map (·.1)),rest:=(s.heap.objs.size+1,oc₁)::c.rest }
  have pm:(mt++(imm++c₁.rest)).Perm ((s.heap.objs.size+1,oc₁)::(mt++(imm++c.rest))):=(List.perm_middle.append_left mt).trans List.perm_middle
  have O₁:CxOK c₁:=⟨O.XB,O.TB,rfl,O.handled⟩
  have I₁:Inv c₁ imm ⟨[("words",.tl [w])],.some (x,dx,FF cur cc lm lb bra ket)⟩ { s with heap:=h₁,toks:=tk }:=by
    refine ⟨I.sh,_,_,mt,KtsTurn.refl,⟨hns,fun b o e=>hk₁ b o (of_hideAll _ e),Nat.le_of_eq (hideAll_size _ _)⟩,fun p hp=>?_,B₂,D₂,MO,?_,fun y v e=>?_⟩
    · rcases List.mem_cons.mp (pm.mem_iff.mp hp) with rfl | hp
      · refine ⟨hoc₁,hLc,?_⟩
        cases q:(hideAll s.heap ((mt++(imm++c.rest)).map (·.1))).get? (s.heap.objs.size+1) with
        | none=>rfl
        | some o=>have:=of_hideAll _ q; rw [hfr] at this; cases this
      · exact ⟨hk₁ _ _ (N p hp).1,Nat.ne_of_lt (Heap.lt_size (N p hp).1),hideAll_none _ (List.mem_map_of_mem hp)⟩
    · refine (pm.map _).nodup_iff.mpr (List.nodup_cons.mpr ⟨fun hm=>?_,ND⟩)
      obtain ⟨p,hp,e⟩:=List.mem_map.mp hm
      have:=Heap.lt_size (N p hp).1
      exact absurd (show s.heap.objs.size+1 < s.heap.objs.size from (show p.1=s.heap.objs.size+1 from e)▸this) (Nat.not_lt.mpr (Nat.le_succ _))
    · rw [cO] at e
      by_cases hy:y = "words"
      · rw [if_pos hy] at e
        cases e
        exact ⟨Vl,if_pos hy,hv2⟩
      · rw [if_neg hy] at e
        cases e
  have hA₁:(c.A.deeper (envOfC "BaseStemmer.stemWords" scW s.heap.objs.size 194 cdv)).frames=some (envOfC "BaseStemmer.stemWords" scW s.heap.objs.size 194 cdv::c.env::c.outer):=Around.frames_deeper hA
  show wpAny c.M (c.A.deeper (envOfC "BaseStemmer.stemWords" scW s.heap.objs.size 194 cdv)) (execs [.Return (some (.ListComp eltW [⟨.Name "word" ⟨195,40,195,44⟩,.Name "words" ⟨195,48,195,53⟩,[],0⟩] csW ⟨195,15,195,54⟩)) ⟨195,8,195,54⟩] (envOfC "BaseStemmer.stemWords" scW s.heap.objs.size 194 cdv)) _ _ _
  refine wpAny_execs_cons (wpAny_Return_some ?_)
  rw [eval_ListComp]
  refine wpAny_comprehension_free (use:=none) rfl Zn (clos_W rfl) rfl names_W ?_
  refine wpAny_Name (wpAny_loadName_local rfl rfl hns (if_pos rfl) ?_) (by decide)
  refine comp_one (c:=c₁) (st':=⟨[("words",.tl [w])],.some (x,dx,FF w' k1 w'.length 0 k2 k3)⟩) (w:=w) (y:=w') O₁ O.handled rfl (by kernel_rfl) rfl I₁ hv2 (fun c' C oC m' imm' s' W hc' hup hC hN hm hW J=>?_) fun W s' imm' x' I' hW=>?_
  · generalize c'.rest=r at hc' hup hC
    subst hc'
    obtain ⟨g₂,m₂,mt₂,T₂,F₂,N₂,B₂',D₂',MO₂,ND₂,LO₂⟩:=id J.ex
    obtain ⟨es',k,rfl,FO,_,IA⟩:=nJ rfl N₂ MO₂
    obtain ⟨m1,m2,m3,m4⟩:=m_stemWord.get c.P
    obtain ⟨pl,hz⟩:=(show nV (.Name "self" ⟨195,16,195,20⟩) "stemWord" ⟨195,16,195,29⟩ [.Name "word" ⟨195,30,195,34⟩] ⟨195,16,195,35⟩ from fun _=>⟨_,rfl⟩) (compEnvC csW [(("self" : Str),s.heap.objs.size+1)] C (envOfC "BaseStemmer.stemWords" scW s.heap.objs.size 194 cdv))
    refine MethodCall_ ?_ hz
    have O₂:CxOK { c₁ with rest:=r }:=⟨O.XB,O.TB,rfl,O.handled⟩
    have XX:=Inv.X O₂ B₂'
    refine wpAny_Name (wpAny_loadName_cell (c:=s.heap.objs.size+1) (v:=.ref x) rfl rfl rfl ⟨oc₁,J.restAt (p:=(s.heap.objs.size+1,oc₁)) (hup _ List.mem_cons_self),hd₁⟩ ?_) (by decide)
    refine method_inst F₂ XX IA m1 m2 m3 (FO.getNone (by rfl)) ?_
    refine callWith_K XX m4 ?_ (aV rfl) (gT rfl)
    refine args_cons (wpAny_Name (wpAny_loadName_local rfl rfl (hN.ns (J.restAt hC)) hm ?_) (by decide)) (aV rfl)
    refine args_nil ⟨XX.keeps F₂.keep,wpAny_call ?_⟩
    refine codeAny_mono (call_from nN rfl hex (.inl rfl) (c:={ c₁ with rest:=r }) (A:=c.A.deeper (envOfC "BaseStemmer.stemWords" scW s.heap.objs.size 194 cdv)) (e₁:=envOfC "BaseStemmer.stemWords" scW s.heap.objs.size 194 cdv) rfl rfl hA₁ O.handled ⟨by have:=R.1; show c.A.depth+1+(d+5+1) < _; lia,by have:=R.2; show c.A.units+3+3 * (d+5+1)+40≤_; lia⟩ (Vs:=[.ref x,W]) O₂ J (.cons rfl (.cons hW .nil))) fun r s₃ q=>?_
    rw [hst] at q
    cases r with
    | error e=>exact q.elim
    | ok f =>
      cases f with
      | ret V=>exact q
      | _=>exact q.elim
  · obtain ⟨g₂,m₂,mt₂,T₂,F₂,N₂,_,_,MO₂,ND₂,LO₂⟩:=id I'.ex
    obtain ⟨h₀',T₃,F₃,N₃,B₃⟩:=back _ _ _ _ _ T₂ F₂ N₂
    have pm₂:(mt₂++(imm'++c₁.rest)).Perm ((s.heap.objs.size+1,oc₁)::(mt₂++(imm'++c.rest))):=(List.perm_middle.append_left mt₂).trans List.perm_middle
    refine ⟨imm',x',⟨I'.sh,h₀',m,mt₂,T.trans T₃,F₃,fun p hp=>N₃ p (pm₂.mem_iff.mpr (List.mem_cons_of_mem _ hp)),B₃,D.turn T₃,MO₂,(List.nodup_cons.mp ((pm₂.map _).nodup_iff.mp ND₂)).2,fun x v e=>?_⟩,hW⟩
    obtain ⟨W,a,b⟩:=LO x v e
    exact ⟨W,a,b.mono x'.mem⟩
theorem k_make (P:Params):makesIn (Mine.KK P) 672=true:=by kernel_rfl
theorem k_init (P:Params):findIn (Mine.KK P) (.ref 672) "__init__" = some (some (.ref 35)):=by kernel_rfl
theorem k_initf (P:Params):isFn (Mine.KK P) (.ref 35)=true:=by kernel_rfl
theorem k_keepc (P:Params):keepIn (Mine.KK P) (.ref 672)=true:=by kernel_rfl
theorem under_units (A:Around) (x:Args):(A.under (.builtin "type.__call__" x)).units=A.units+1:=by kernel_rfl
theorem init_body {d:Nat} {x dx:Addr}:∃ st':Sx,st'.f=.some (x,dx,FF [] 0 0 0 0 0)∧Exs (d+1) (aE (stC 2 0)) (aG (stC 2 0)) ⟨[("self" : Str)].zip [.self x],.some (x,dx,[])⟩ .next st':=by
  refine ⟨_,?_,Aa (Bg (Av Zl (by rfl) (by rfl) hH (Ah (Ar (x:=[]) (by rfl) Zb) Aq) set_cur0 (fun _=>⟨_,rfl⟩)) (by rfl) Zn) Ad⟩
  rfl
theorem Exs.newObj {d:Nat} {sc:Scope} {x:Str} {px p pf pc:Pos} {loc:Loc} {rest:List Stmt} {v:SV} {st':Addr→Addr→Sx} (hl:sc.names.lookup x=some .local) (hcls:sc.names.lookup ("EsperantoStemmer" : Str)=some .globalImplicit)
    (hs:∀ env:Env,swapsWith (.Call (.Name "EsperantoStemmer" pf) [] [] pc) (some (.Name x px)) p.line env=pure false)
    (h:∀ a da,Exs (d+3) sc rest ⟨putF x (.self a) loc,.some (a,da,FF [] 0 0 0 0 0)⟩ (.ret v) (st' a da)):Exs (d+3) sc (.Assign [.Name x px] (.Call (.Name "EsperantoStemmer" pf) [] [] pc) p::rest) ⟨loc,.none⟩ (.ret v) ⟨[],.none⟩:=.mk fun c imm s O R hc I=>by
  obtain ⟨g,m,mt,T,F,N,B,D,MO,ND,LO⟩:=id I.ex
  refine wpAny_execs_cons ?_
  refine wpAny_Assign_Name ?_ (hs _)
  refine Call_ (name_K F (Inv.X O B) (Inv.TR O B) (k_cls c.P) ?_ O.kind (hc▸hcls) (by decide))
  refine callWith_K0 ((Inv.X O B).keeps F.keep) (k_keepc c.P) ?_
  have hA:c.A.frames=some (c.env::c.outer):=Around.frames_deeper B.stack
  cases (show mt=[] from MO)
  refine call_cls F (Inv.X O B) N (k_make c.P) (k_init c.P) (k_initf c.P) fun a da h' F' N' hlt hlt'=>?_
  have I':Inv c imm ⟨loc,.some (a,da,[])⟩ { s with heap:=h' }:=by
    refine ⟨I.sh,g,m,[(a,instObj 672 da),(da,dictOf [] 0)],T,F',N',B,D,⟨[],0,rfl,.nil,Nat.zero_le _⟩,?_,LO⟩
    have nm:∀ b,da≤b→b ∉ (([]:List (Addr×Obj))++(imm++c.rest)).map (·.1):=fun b hb hm=>by
      obtain ⟨p,hp,e⟩:=List.mem_map.mp hm
      have:=hlt p hp
      rw [show p.1=b from e] at this
      exact absurd this (Nat.not_lt.mpr hb)
    refine List.nodup_cons.mpr ⟨fun hm=>?_,List.nodup_cons.mpr ⟨nm da (Nat.le_refl _),ND⟩⟩
    rcases List.mem_cons.mp hm with e | hm
    · exact absurd hlt' (by rw [show a=da from e]; exact Nat.lt_irrefl _)
    · exact nm a (Nat.le_of_lt hlt') hm
  obtain ⟨st₁,hst,hex⟩:=@init_body (d+0) a da
  refine codeAny_mono (call_from fn___init__ rfl hex (.inr ⟨rfl,rfl⟩) (c:=c) (A:=c.A.under (.builtin "type.__call__" ⟨[.ref 672],[]⟩)) (e₁:=c.env) rfl O.kind hA O.handled ⟨by have:=R.1; exact (depth_under_make c.A 672 []).symm▸(by lia:c.A.depth+1+(d+0+1+1) < recursionLimit),by have:=R.2; rw [under_units]; lia⟩ (Vs:=[.ref a]) O I' (.cons rfl .nil)) fun r s₃ q=>?_
  rw [hst] at q
  cases r with
  | error e=>exact q.elim
  | ok f =>
    cases f with
    | ret V =>
      obtain ⟨imm₃,x₃,I₃,hV⟩:=q
      refine ⟨hV,?_⟩
      refine dH O I₃ (v:=.self a) rfl (hc▸hl) fun s'' I''=>?_
      refine wpAny_mono ((h a da).run c imm₃ s'' O R hc I'') (fun F s₂ q=>?_) fun e s₂ q=>q.elim
      obtain ⟨V,rfl,imm',x',J,hV⟩:=q
      refine ⟨V,rfl,imm',x₃.trans x',?_,hV⟩
      obtain ⟨g,m,mt,T,F,N,B,D,MO,ND,LO⟩:=J.ex
      have sub:(([]:List (Addr×Obj))++(imm'++c.rest)).Sublist (mt++(imm'++c.rest)):=List.sublist_append_right mt _
      exact ⟨J.sh,g,m,[],T,F,fun p hp=>N p (sub.subset hp),B,D,rfl,(sub.map _).nodup ND,fun x v e=>by cases e⟩
    | _=>exact q.elim
theorem all2_take {α β:Type} {R:α→β→Prop} {l:List α} {m:List β} (h:All2 R l m):∀ n,All2 R (l.take n) (m.take n):=by
  induction h with
  | nil=>intro n; simp; exact .nil
  | cons h _ ih =>
    intro n
    cases n with
    | zero=>exact .nil
    | succ n=>exact .cons h (ih n)
theorem slice_pick {c:Cx} {imm:List (Addr×Obj)} {st:Sx} {s:Shared} {xn:Str} {px qq:Pos} {l:Addr} {vs:Array Value} {a b:Option Expr} {vl vu:Value} {lo hi:Option Int} (I:Inv c imm st s) (hl:s.heap.IsList l vs) (hsz:vs.size≤100000)
    (pl:IsPart vl lo) (pu:IsPart vu hi) {Q:Value→Shared→Prop}
    (h:∀ h' o,Inv c ((s.heap.objs.size+1,o)::imm) st { s with heap:=h' }→SeqIs c.P ((s.heap.objs.size+1,o)::imm) "list" (.ref (s.heap.objs.size+1)) (slicePick vs lo hi none)→Q (.ref (s.heap.objs.size+1)) { s with heap:=h' }) :
    wpAny (model pw c.w) c.A (subscriptTail (.Name xn px) (.Slice a b Option.none qq) (.ref l) (.ref s.heap.objs.size)) Q NoE { s with heap:=s.heap.push { cls:=.type "slice",data:=.fields #[vl,vu,.none] } }:=by
  obtain ⟨g,m,mt,T,F,N,B,D,MO,ND,LO⟩:=id I.ex
  refine slice_list F N hl pl pu (fun h' F' N'=>?_) rfl Zn (Nat.le_trans hsz (by decide))
  have I':Inv c ((s.heap.objs.size+1,{ cls:=.type "list",data:=.seq (slicePick vs lo hi none) })::imm) st { s with heap:=h' }:=by
    have e:List.Perm (mt++(((s.heap.objs.size+1,{ cls:=.type "list",data:=.seq (slicePick vs lo hi none) })::imm)++c.rest)) ((s.heap.objs.size+1,{ cls:=.type "list",data:=.seq (slicePick vs lo hi none) })::(mt++(imm++c.rest))):=List.perm_middle
    refine ⟨I.sh,g,m,mt,T,F',fun p hp=>N' p (e.mem_iff.mp hp),B,D,MO,(e.map (·.1)).nodup_iff.mpr ?_,fun x v q=>?_⟩
    · rw [List.map_cons,List.nodup_cons]
      refine ⟨fun hm=>?_,ND⟩
      obtain ⟨p,hp,hpa⟩:=List.mem_map.mp hm
      have h1:=Heap.lt_size (N p hp).1
      have hpa':p.1=s.heap.objs.size+1:=hpa
      rw [hpa'] at h1
      exact absurd h1 (Nat.not_lt.mpr (Nat.le_succ _))
    · obtain ⟨V,h1,h2⟩:=LO x v q
      exact ⟨V,h1,h2.mono fun p hp=>List.mem_cons_of_mem _ hp⟩
  exact h h' _ I' ⟨_,_,_,rfl,.inl List.mem_cons_self,rfl,rfl⟩
theorem nB:(aE (stM 29)).names.lookup ("first" : Str)=some NameKind.local:=by kernel_rfl
theorem lK:(aE (stM 29)).names.lookup ("second" : Str)=some NameKind.local:=by kernel_rfl
theorem m29_script:(aE (stM 29)).names.lookup ("script" : Str)=some NameKind.local:=by kernel_rfl
theorem jS:(aE (stM 29)).names.lookup ("stemmer" : Str)=some NameKind.local:=by kernel_rfl
theorem m29_cls:(aE (stM 29)).names.lookup ("EsperantoStemmer" : Str)=some NameKind.globalImplicit:=by kernel_rfl
theorem lX:(aE (stM 29)).names.lookup ("_law_stem" : Str)=some NameKind.globalImplicit:=by kernel_rfl
theorem m29_law_word:(aE (stM 29)).names.lookup ("_law_word" : Str)=some NameKind.globalImplicit:=by kernel_rfl
theorem law_rest {d:Nat} {w2:Addr} {x1 x2:T} (h1:x1.length≤1000) (h2:x2.length≤1000) :
    Exs (d+3+5) (aE (stM 29)) [nthS (aG (stM 29)) 2,nthS (aG (stM 29)) 3,nthS (aG (stM 29)) 4] ⟨[("script",.self w2),("first",.str x1),("second",.str x2)],.none⟩ (.ret (.bool true)) ⟨[],.none⟩:=by
  have hw1:x1.length≤50000:=by lia
  have hw2:x2.length≤50000:=by lia
  obtain ⟨a1,a2,a3,ha⟩:=stemWord_law hw1 [] 0 0 0 0 0
  obtain ⟨b1,b2,b3,hb⟩:=stemWords_ok (stemWord_body (stem_law hw2)) (eU x1) a1 ((eU x1).length:Int) 0 a2 a3
  refine' Exs.newObj (d:=d+5) (st':=fun a da=>⟨[("script",.self w2),("first",.str x1),("second",.str x2),("stemmer",.self a)],.some (a,da,FF (eU x2) b1 (eU x2).length 0 b2 b3)⟩) jS m29_cls Zn fun a da=>?_
  refine' Aa (Af (Ac (Av (Zm jS) (by rfl) (by rfl) m_stemWord (Ah (Zm nB) Aq) ha (fun _=>⟨_,rfl⟩)) (Ev.callF g_law_stem nG lX (by decide) (Ah (Zm nB) Aq) (nF hw1 _)) (gR rfl)) Ad) ?_
  refine' Ab (Ax (Ev.cmpR (Av (Zm jS) (by rfl) (by rfl) m_stemWords (Ah (Bj (xs:=[x2]) (Ah (Zm lK) Aq) (by show (1:Nat)≤1000; decide)) Aq) hb (fun _=>⟨_,rfl⟩)) (Bj (xs:=[eU x2]) (Ah (Ev.callF g_law_stem nG lX (by decide) (Ah (Zm lK) Aq) (nF hw2 _)) Aq) (by show (1:Nat)≤1000; decide)) (cr_tl_eq (by simp)))) (by simp)
theorem ints_all2 {vs:List Value} {ns:List Int} (h:IntsAre vs ns):All2 IntV ns vs:=by
  induction h with
  | nil=>exact .nil
  | cons n t _ ih=>exact .cons ⟨t,rfl⟩ ih
theorem word_stmt {d:Nat} {ns:List Int} (lo hi:Option Int) (hn:ns.length≤63):∃ y:T,y.length≤1000∧∀ (c:Cx) (imm:List (Addr×Obj)) (st:Sx) (s:Shared),CxOK c→Room c (d+2)→c.scope=aE (stM 29)→Inv c imm st s →
    ∀ (w2:Addr) (vals:List Value),c.base.IsList w2 vals.toArray→IntsAre vals ns→st.loc.lookup ("script" : Str)=some (.self w2)→∀ (x:Str) (px pf p pos pn ps pq:Pos) (a b:Option Expr),
    (∀ (imm':List (Addr×Obj)) (s':Shared),Inv c imm' st s'→wpAny c.M c.A (evalPart a c.env) (fun l s''=>IsPart l lo∧QI c imm' st s'') NoE s') →
    (∀ (imm':List (Addr×Obj)) (s':Shared),Inv c imm' st s'→wpAny c.M c.A (evalPart b c.env) (fun l s''=>IsPart l hi∧QI c imm' st s'') NoE s') →
    c.scope.names.lookup x=some .local→(∀ env:Env,swapsWith (.Call (.Name "_law_word" pf) [.Subscript (.Name "script" pn) (.Slice a b none pq) ps] [] p) (some (.Name x px)) pos.line env=pure false) →
    wpAny c.M c.A (exec (.Assign [.Name x px] (.Call (.Name "_law_word" pf) [.Subscript (.Name "script" pn) (.Slice a b none pq) ps] [] p) pos) c.env) (fun f s'=>f=.next∧QI c imm { st with loc:=putF x (.str y) st.loc } s') NoE s:=by
  have hl:∀ k m:Nat,((ns.drop k).take m).length≤100:=fun k m=>by rw [List.length_take,List.length_drop]; lia
  obtain ⟨y,hy,hcall⟩:=law_word_ok (d:=d) (hl (lo.elim 0 (clipAt ns.length)) (hi.elim ns.length (clipAt ns.length) - lo.elim 0 (clipAt ns.length)))
  refine ⟨y,hy,fun c imm st s O R hc I w2 vals hL hI hscr x px pf p pos pn ps pq a b ha hb hx hsw=>?_⟩
  have hA2:=ints_all2 hI
  have hsz:vals.toArray.size=ns.length:=by rw [List.size_toArray]; exact hA2.length.symm
  obtain ⟨g,m,mt,T,F,N,B,D,MO,ND,LO⟩:=id I.ex
  refine wpAny_Assign_Name ?_ (hsw _)
  refine Call_ (name_K F (Inv.X O B) (Inv.TR O B) (g_law_word c.P) ?_ O.kind (hc▸m29_law_word) (by decide))
  refine callWith_K (Inv.X O B) (kp_law_word c.P) ?_ (aV rfl) (gT rfl)
  refine args_cons ?_ (aV rfl)
  refine Subscript_ ?_
  refine wpAny_mono (e_local O I hscr (hc▸m29_script) (by decide)) (fun V s₁ q=>?_) fun _ _ f=>f.elim
  obtain ⟨imm₁,x₁,I₁,rfl⟩:=q
  refine wpAny_Slice (wpAny_mono (ha imm₁ s₁ I₁) (fun vl s₂ q=>?_) fun _ _ f=>f.elim)
  obtain ⟨pl,imm₂,x₂,I₂⟩:=q
  refine wpAny_mono (hb imm₂ s₂ I₂) (fun vu s₃ q=>wpAny_pure ?_) fun _ _ f=>f.elim
  obtain ⟨pu,imm₃,x₃,I₃⟩:=q
  refine wpAny_mono (slice_pick (lo:=lo) (hi:=hi) I₃ (stays_list (Inv.stays (s:=s₃) I₃) hL) (by lia) pl pu (Q:=fun V s'=>QV c imm₃ st (.il ((ns.drop (lo.elim 0 (clipAt ns.length))).take (hi.elim ns.length (clipAt ns.length) - lo.elim 0 (clipAt ns.length)))) V s') fun h' o I' hS=>?_) (fun V s₄ q=>?_) fun _ _ f=>f.elim
  · refine ⟨_,⟨[_],rfl⟩,I',⟨_,hS,?_⟩⟩
    rw [slicePick_plain,hsz]
    exact all2_take (lC _ hA2) _
  · obtain ⟨imm₄,x₄,I₄,hV⟩:=q
    obtain ⟨g₂,m₂,mt₂,T₂,F₂,N₂,B₂,D₂,MO₂,ND₂,LO₂⟩:=id I₄.ex
    refine args_nil ⟨(Inv.X O B₂).keeps F₂.keep,wpAny_call ?_⟩
    refine codeAny_mono ((hcall st.f).run c imm₄ s₄ st.loc [V] O R I₄ (.cons hV .nil)) fun r s₅ q=>?_
    cases r with
    | error e=>exact q.elim
    | ok f =>
      cases f with
      | ret V =>
        obtain ⟨imm₅,x₅,I₅,hV₅⟩:=q
        exact dH O I₅ hV₅ hx fun s' I'=>⟨rfl,imm₅,(((x₁.trans x₂).trans x₃).trans x₄).trans x₅,I'⟩
      | _=>exact q.elim
theorem part_none {c:Cx} {st:Sx} (imm':List (Addr×Obj)) (s':Shared) (I:Inv c imm' st s'):wpAny c.M c.A (evalPart none c.env) (fun l s''=>IsPart l none∧QI c imm' st s'') NoE s':=wpAny_pure ⟨.none,imm',.refl,I⟩
theorem part_int {c:Cx} {st:Sx} {i:Int} {k:Nat} {p:Pos} (imm':List (Addr×Obj)) (s':Shared) (I:Inv c imm' st s'):wpAny c.M c.A (evalPart (some (.Constant (.int i) k p)) c.env) (fun l s''=>IsPart l (some i)∧QI c imm' st s'') NoE s' :=
  wpAny_Constant_int (k:=k) (pos:=p) ⟨.int i _,imm',.refl,I.tok _⟩
theorem law_body {c:Cx} {imm:List (Addr×Obj)} {s:Shared} {w2:Addr} {vals:List Value} {ns:List Int} (O:CxOK c) (R:Room c 20) (hc:c.scope=aE (stM 29)) (I:Inv c imm ⟨[("script",.self w2)],.none⟩ s) (hL:c.base.IsList w2 vals.toArray) (hI:IntsAre vals ns) (hn:ns.length≤63) :
    wpAny c.M c.A (execs (aG (stM 29)) c.env) (fun f s'=>∃ V,f=.ret V∧QV c imm ⟨[],.none⟩ (.bool true) V s') NoE s:=by
  obtain ⟨x1,h1,e1⟩:=word_stmt (d:=18) none (some 8) hn
  obtain ⟨x2,h2,e2⟩:=word_stmt (d:=18) (some 8) (some 14) hn
  have e0:aG (stM 29)=[nthS (aG (stM 29)) 0,nthS (aG (stM 29)) 1,nthS (aG (stM 29)) 2,nthS (aG (stM 29)) 3,nthS (aG (stM 29)) 4]:=by kernel_rfl
  rw [e0]
  refine wpAny_execs_cons (wpAny_mono (e1 c imm _ s O R hc I w2 vals hL hI rfl "first" _ _ _ _ _ _ _ none (some (.Constant (.int 8) 0 _)) part_none part_int (hc▸nB) Zn) (fun f s₁ q=>?_) fun _ _ f=>f.elim)
  obtain ⟨rfl,imm₁,x₁,I₁⟩:=q
  refine wpAny_execs_cons (wpAny_mono (e2 c imm₁ _ s₁ O R hc I₁ w2 vals hL hI rfl "second" _ _ _ _ _ _ _ (some (.Constant (.int 8) 0 _)) (some (.Constant (.int 14) 0 _)) part_int part_int (hc▸lK) Zn) (fun f s₂ q=>?_) fun _ _ f=>f.elim)
  obtain ⟨rfl,imm₂,x₂,I₂⟩:=q
  refine wpAny_mono ((law_rest (d:=12) (w2:=w2) h1 h2).run c imm₂ s₂ O R hc I₂) (fun f s₃ q=>?_) fun _ _ f=>f.elim
  obtain ⟨V,rfl,q⟩:=q
  exact ⟨V,rfl,cJ (x₁.trans x₂) q⟩
theorem dl_body:dLaw.body=aG (stM 29):=by kernel_rfl
theorem dl_scope:dLaw.scope=aE (stM 29):=by kernel_rfl
theorem dl_kind:dLaw.scope.kind=.function:=by kernel_rfl
theorem post_1 (l:List Int):PySem.Challenge.rw_ip0006_01.row.claim.post [ofPy (PyData.list (List.map PyData.int l))] (WData.bool true) [ofPy (PyData.list (List.map PyData.int l))]=true:=by kernel_rfl
theorem walk:WalkO qv lo (XL qv []) hk.says PySem.Challenge.rw_ip0006_01.row.toRowW dLaw [] fun f vs=>call f vs:=by
  w_strict (
    intro w s₀ s₁ mg mb G Y fa o pm cd doc dV kV ho hd hcd hD hmg hg args vals as hpre hlay hrd hwl hlo
    have KX:(KK w.params).In s₁.heap:=Y
    have X:=(Ground.X G).1
    have V:=(Ground.X G).2
    refine Ground.open G ?_
    intro T B D TE TW
    refine guard_noD D (by decide +kernel) ?_; clear D
    obtain ⟨_,_,M⟩:=bmod_of_top T
    have TA:=at_of_top T
    try (obtain ⟨_,_,he,B0⟩:=based_of_top T rfl hmg ho hd; have he':cd=_:=he; subst he'; clear he)
    clear hmg
    wrow_args hpre hlay hrd hwl hlo
    first | refine enter_call ?_ | refine enter_callW ?_
    w_top on
    try refine codeAny_mono ?_ (fun _ _ g=>GoodW.toG g)
    have K0:=below_caller (Top.heap T)
    w_call any ho hd hcd hD T F
    clear hd TA
    k_drop
    rename Fr _ _ _ _=>F
    rename News _ _ _ _=>N0
    rename Top _ _ _ _ _ _=>TT
    rename IntsAre _ _=>hI
    rename Heap.IsList _ _ _=>hL
    rename ¬ _ < _=>hcn
    rw [dl_body]
    refine wpAny_mono (law_body (c:=⟨w,s₁,callerA,s₁.heap,[],dLaw.name,dLaw.scope,s₁.heap.objs.size,fa,_,s₁.heap,mg,mb,ExcName.means s₀.heap,[]⟩) (imm:=[]) ⟨KX,TT,dl_kind,rfl⟩ ⟨by show callerA.depth+1+20 < recursionLimit; decide,by show callerA.units+3+3 * 20+40≤cLine; decide⟩ dl_scope
      ⟨⟨rfl,rfl,rfl⟩,s₁.heap,_,[],KtsTurn.refl,F,N0,below_caller _,ktsDicts_nil,rfl,.nil,fun y v e=>?_⟩ hL hI (by lia)) (fun f s' q=>?_) fun _ _ f=>f.elim
    · rw [cO] at e
      by_cases hy:y = "script"
      · rw [if_pos hy] at e
        cases e
        subst hy
        exact ⟨_,rfl,rfl⟩
      · rw [if_neg hy] at e
        cases e
    · obtain ⟨V,rfl,imm',x',I',hV⟩:=q
      cases hV
      obtain ⟨g,m,mt,T,F',N,B,D,MO,ND,LO⟩:=I'.ex
      refine ⟨.inl ⟨.bool true,.bool true,[],rfl,fun _=>?_,.bool true,?_,fun _=>⟨.nil,by simp⟩⟩,fun b o e=>F'.keep b o (B.stays b o e),I'.sh.2.2,I'.sh.1.trans (by assumption)⟩
      · rfl
      · exact post_1 _)
theorem fin:PySem.Challenge.rw_ip0006_01.Holds:=hd walk
end Esp
theorem PySem.Challenge.cw_ip0006_01_holds : PySem.Challenge.rw_ip0006_01.Holds :=
  Esp.fin
