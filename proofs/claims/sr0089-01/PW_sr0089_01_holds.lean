import PyProof.Rows.All
import Wide.All
import OpenK.AllK
import Wide.FinOn
import PyProof.Ns1
import PyProof.InstStore
import PyProof.Cells
import PyProof.P3In
import PyProof.Rows.InDataRows
import PyProof.EqLayable
import PyProof.LetGo
import PyProof.DictStraight
import PyProof.SliceList
import PyProof.SliceMore
import PyProof.ListIndexNeg
import PyProof.TupleOps
import PyProof.StrOps
import PyProof.CallRoads
import PyProof.SliceSyntax
import PyProof.Rows.TupMore
import PyProof.WalkInts
import PyProof.Rows.SumAny
import PyProof.Rows.SumGenD
import PyProof.SeqI3
import PyProof.Rows.SortStr
import PyProof.Rows.SortWalk
import PyProof.Rows.StrBin
import PyProof.Rows.StrOrd
import PyProof.Rows.StrMeet
import PyProof.ReprRoads
import PyProof.TupleOfSeq
import KE.BytesMake
import PyProof.Rows.Chain
import PyProof.StrCalls2
import PyProof.CallRoads3
import PyProof.Rows.StrJoin2
import PyProof.Rows.StrLen
import PyProof.SeqRoads2
import PyProof.TupleIter
import PyProof.Walks
import PyProof.WalksMore
import PyProof.WalksPairs
import PyProof.StrWalks
import PyProof.EnumMake
import PyProof.RangeFor
import PyProof.ListRange
import PyProof.ZipIter
import PyProof.CompFree
import OpenK.KLine
import PyProof.PlainList
import PyProof.SeqRoads
import PyProof.AutoSeq1
import PyProof.RulesAssignMore
import PyProof.Dict
import PyProof.ForAppend
import PyProof.Rows.RuleB_and
import PyProof.Rows.RuleB_or
import PyProof.Rows.RuleB_xor
import PyProof.Rows.RuleB_rshift
import PyProof.Rows.RuleB_small
import PyProof.Rows.RuleB_sub
import KE.KBytesWalk
import KE.KDictIter
import KE.KItemsList
import PyProof.ObjNew
import PyProof.StrLawsChain
import PyProof.InstLoad
import PyProof.InstStoreFacts
import OpenK.KCls
import OpenK.KGet
import PyProof.DictRoads
import PyProof.DictCalls
import PyProof.SetRoads
import Lean
import PySem.Challenge.RW_sr0089_01
set_option maxRecDepth 100000
set_option maxHeartbeats 0
set_option linter.all false
set_option linter.unusedVariables false
set_option Elab.async false
set_option bootstrap.genMatcherCode false
set_option tactic.hygienic false
namespace Mine.G
open PySem PySem.W PyProof.Rows PySem.Calls
noncomputable abbrev Res (α:Type):=Option (α × Pos × BT × Nat × Nat × Nat)
noncomputable abbrev fP:=Code→List (Code × Pos)→Pos→BT→Nat→Nat→Nat→Option (Result × BT × Nat × Nat × Nat)
noncomputable def dM (n₀:Nat)(ann:Option Value)(a:Addr):Bool:=Nat.ble n₀ a || a==mainNs || a==cStatics || ann==some (.ref a)
noncomputable def GA:Code→Bool
 |.builtin id _=>!id.startsWith "lifetime."
 |_=>true
theorem yQ {a n:Nat}(h:Nat.blt a n=true):a<n:=Nat.le_of_ble_eq_true h
theorem ZD {a n:Nat}(h:Nat.blt a n=false):¬ a<n:=fun q=>Bool.noConfusion ((Nat.ble_eq_true_of_le q:Nat.blt a n=true).symm.trans h)
noncomputable def onB {γ:Type}(b:Bool)(x:Option γ):Option γ:=match b with
 |true=>x
 |false=>none
noncomputable def onO {δ γ:Type}(o:Option δ)(f:δ→Option γ):Option γ:=match o with
 |some y=>f y
 |none=>none
theorem eO {γ:Type}{b:Bool}{x:Option γ}{r:γ}(h:onB b x=some r):b=true∧x=some r:=match b,h with
 |true,h=>⟨rfl,h⟩
theorem bS {δ γ:Type}{o:Option δ}{f:δ→Option γ}{r:γ}(h:onO o f=some r):∃y,o=some y∧f y=some r:=match o,h with
 |some y,h=>⟨y,rfl,h⟩
theorem fQ {γ:Type}{b:Bool}{x r:Option γ}(e:b=true)(h:x=r):onB b x=r:=by rw [e]; exact h
theorem dG {δ γ:Type}{o:Option δ}{f:δ→Option γ}{r:Option γ}{y:δ}(e:o=some y)(h:f y=r):onO o f=r:=by rw [e]; exact h
noncomputable abbrev Ret:=Result × BT × Nat × Nat × Nat
section
variable (call:fP)(p:Program)(w:World)(n₀:Nat)(ann:Option Value)(code:Code)(below:List (Code × Pos))
noncomputable def go {α:Type}(t:Sem α):Pos→BT→Nat→Nat→Nat→Res (Except Value α):=
 @Sem.rec α (fun zz=>Pos→BT→Nat→Nat→Nat→Res (Except Value α))
   (fun a q T n k c=>some (.ok a,q,T,n,k,c))
   (fun e q T n k c=>some (.error e,q,T,n,k,c))
   (fun zz zz zz zz zz zz=>none)
   (fun zz zz zz zz zz zz=>none)
   (fun zz zz ih q T n k c=>ih () q T n k (c+1))
   (fun q' zz ih zz T n k c=>ih () q' T n k (c+1))
   (fun a zz zz ih q T n k c=>onB (Nat.blt a n) (onO (T.get a) fun o=>onO (alive o) fun o'=>ih o' q T n k (c+1)))
   (fun a zz f zz ih q T n k c=>onB (dM n₀ ann a) (onB (Nat.blt a n) (onO (T.get a) fun o=>onO (alive o) fun zz=>ih () q (T.set a f) n k (c+1))))
   (fun o zz ih q T n k c=>onB ((T.ins n o).get n).isSome (ih n q (T.ins n o) (n+1) k (c+1)))
   (fun a zz ih q T n k c=>match Nat.blt a n with
   |true=>onO (T.get a) fun o=>ih (alive o) q T n k (c+1)
   |false=>ih none q T n k (c+1))
   (fun zz zz ih q T n k c=>ih () q T n k (c+1))
   (fun zz zz zz zz zz zz zz zz=>none)
   (fun zz ih q T n k c=>ih k q T n (k+1) (c+1))
   (fun zz ih q T n k c=>ih ⟨p,w.params⟩ q T n k (c+1))
   (fun zz zz zz zz zz zz zz zz zz=>none)
   (fun zz zz zz zz zz zz zz zz zz=>none)
   (fun cc h zz zz zz ih q T n k c=>match h with
   |some _=>none
   |none=>onO (call cc ((code,q)::below) q T n k (c+1)) fun x:Ret=>match x with |(r,T',n',k',c')=>ih r q T' n' k' c')
   (fun zz zz ih q T n k c=>ih none q T n k (c+1))
   (fun zz zz zz zz zz zz zz zz=>none)
   (fun zz zz zz zz zz zz zz zz=>none)
   (fun zz zz zz zz zz zz zz zz zz zz=>none)
   (fun zz zz zz zz zz zz zz zz zz zz=>none)
   (fun zz ih q T n k c=>ih ((code,q)::below) q T n k (c+1))
   (fun zz zz zz zz zz zz zz zz=>none)
   (fun zz zz zz zz zz zz zz=>none)
   (fun zz zz zz zz zz zz zz zz zz zz zz=>none) t
end
noncomputable def ZG (call:fP)(below:List (Code × Pos))(x:Except Value Fin × Pos × BT × Nat × Nat × Nat):Option Ret:=match x with
 |(.ok (.done f),_,T',n',k',c')=>some (.ok f,T',n',k',c'+1)
 |(.ok (.again c2),q',T',n',k',c')=>onB (GA c2) (call c2 below q' T' n' k' (c'+1))
 |(.error e,_,T',n',k',c')=>some (.error e,T',n',k',c'+1)
noncomputable def oP (den:Code→Sem Fin)(p:Program)(w:World)(n₀:Nat)(ann:Option Value)(m:Nat):fP:=
 Nat.rec (fun zz zz zz zz zz zz zz=>none) (fun zz ih cc below q T n k c=>onO (go ih p w n₀ ann cc below (den cc) q T n k c) (ZG ih below)) m
noncomputable def kM:Code→Sem Fin:=PySem.W.Fast.tw11892475500146522536 PySem.W.Fast.tw14364793385576792824
theorem GB:denote treeTable=kM:=by rw [PySem.W.Fast.te11892475500146522536,PySem.W.Fast.te14364793385576792824]; rfl
noncomputable def GC:List Stmt→Env→Sem Flow:=PySem.W.Fast.tw12563942051412417395
theorem ZH:execs=GC:=PySem.W.Fast.te12563942051412417395
noncomputable def St (T:BT)(n k:Nat)(d:Drawn)(os:OsState):Shared:=⟨absHeap T n {},Array.mk [],d,k,os⟩
section
variable {p:Program}{w:World}{n₀:Nat}{ann:Option Value}{d:Drawn}{os:OsState}
noncomputable def HN (stack:List Frame):Prop:=topHandled stack=none∧splitAtGen stack=none
theorem HN.ret {stack:List Frame}(h:HN stack){k g l c p kp}:HN (.ret k none g l c p kp::stack):=by
 refine ⟨?_,?_⟩
 ·have:=h.1; simpa only [topHandled,topHandled.go] using this
 ·show (splitAtGen stack).map _=none; rw [h.2]; rfl
noncomputable def yR (p:Program)(w:World)(n₀:Nat)(ann:Option Value)(d:Drawn)(os:OsState)(call:fP):Prop:=
 ∀cc below q T n k c (x:Ret),call cc below q T n k c=some x→∃e,x.2.2.2.2=c+e ∧
  ∀kk g l code pos kept stack,(code,pos)::stack.map Frame.where_=below→HN stack→∀N res,
   topRun treeTable p w n₀ ann N (St x.2.1 x.2.2.1 x.2.2.2.1 d os) ⟨kk x.1,code,pos,stack⟩=some res →
   topRun treeTable p w n₀ ann (e+N) (St T n k d os) ⟨denote treeTable cc,cc,q,.ret kk none g l code pos kept::stack⟩=some res
theorem uI {N:Nat}{s s' res:Shared}{t t':Thread}(ht:through t=false)(hk:stepOk n₀ ann t=true)(hs:step (denote treeTable) p w s t=.go s' t')
  (h:topRun treeTable p w n₀ ann N s' t'=some res):topRun treeTable p w n₀ ann (N+1) s t=some res:=by
 unfold topRun
 rw [ht]
 simp only [hk,hs,h]
theorem GF {N e:Nat}{s s' res:Shared}{t t':Thread}(ht:through t=false)(hk:stepOk n₀ ann t=true)(hs:step (denote treeTable) p w s t=.go s' t')
  (h:topRun treeTable p w n₀ ann (e+N) s' t'=some res):topRun treeTable p w n₀ ann ((e+1)+N) s t=some res:=by
 rw [Nat.add_right_comm e 1 N]
 exact uI ht hk hs h
noncomputable def GG {α:Type}(K:α→Sem Fin)(H:Value→Sem Fin)(r:Except Value α):Sem Fin:=match r with
 |.ok a=>K a
 |.error e=>H e
noncomputable def uJ (p:Program)(w:World)(n₀:Nat)(ann:Option Value)(d:Drawn)(os:OsState)(code:Code)(below:List (Code × Pos)){α:Type}(t:Sem α)(q:Pos)(T:BT)(n k c:Nat)(x:Except Value α × Pos × BT × Nat × Nat × Nat):Prop:=
 ∃e,x.2.2.2.2.2=c+e∧∀(K:α→Sem Fin) (H:Value→Sem Fin) gd lv stack,stack.map Frame.where_=below→HN stack→∀N res,
   topRun treeTable p w n₀ ann N (St x.2.2.1 x.2.2.2.1 x.2.2.2.2.1 d os) ⟨GG K H x.1,code,x.2.1,stack⟩=some res →
   topRun treeTable p w n₀ ann (e+N) (St T n k d os) ⟨t.wrap K H gd lv,code,q,stack⟩=some res
theorem uJ.one {code:Code}{below:List (Code × Pos)}{α:Type}{t t1:Sem α}{q q1:Pos}{T T1:BT}{n n1 k k1 c:Nat}{x:Except Value α × Pos × BT × Nat × Nat × Nat}(i:uJ p w n₀ ann d os code below t1 q1 T1 n1 k1 (c+1) x)
  (ht:∀(K:α→Sem Fin) (H:Value→Sem Fin) gd lv stack,through ⟨t.wrap K H gd lv,code,q,stack⟩=false)
  (hk:∀(K:α→Sem Fin) (H:Value→Sem Fin) gd lv stack,stepOk n₀ ann ⟨t.wrap K H gd lv,code,q,stack⟩=true)
  (hs:∀(K:α→Sem Fin) (H:Value→Sem Fin) gd lv stack,stack.map Frame.where_=below→HN stack→step (denote treeTable) p w (St T n k d os) ⟨t.wrap K H gd lv,code,q,stack⟩=.go (St T1 n1 k1 d os) ⟨t1.wrap K H gd lv,code,q1,stack⟩) :
  uJ p w n₀ ann d os code below t q T n k c x:=
 let ⟨e,he,hr⟩:=i
 ⟨e+1,he.trans (Nat.add_right_comm c 1 e),fun K H gd lv stack hb hn N res h=>GF (ht K H gd lv stack) (hk K H gd lv stack) (hs K H gd lv stack hb hn) (hr K H gd lv stack hb hn N res h)⟩
theorem ZI {h:Heap}{g:Array GenState}{k:Nat}{a:Addr}{part:Option Value}{y:Obj→Sem Fin}{code:Code}{q:Pos}{stack:List Frame}{o:Obj}(e:h.get? a=some o):step (denote treeTable) p w ⟨h,g,d,k,os⟩ ⟨.load a part y,code,q,stack⟩=.go ⟨h,g,d,k,os⟩ ⟨y o,code,q,stack⟩:=by
 simp only [step,e]
theorem ZJ {h:Heap}{g:Array GenState}{k:Nat}{a:Addr}{part:Option Value}{f:Obj→Obj}{y:Unit→Sem Fin}{code:Code}{q:Pos}{stack:List Frame}{o:Obj}(e:h.get? a=some o):step (denote treeTable) p w ⟨h,g,d,k,os⟩ ⟨.update a part f y,code,q,stack⟩=.go ⟨h.update a f,g,d,k,os⟩ ⟨y (),code,q,stack⟩:=by
 simp only [step,e,Option.isSome_some,if_true]
theorem ZK {h:Heap}{g:Array GenState}{k n:Nat}{x:Obj}{y:Addr→Sem Fin}{code:Code}{q:Pos}{stack:List Frame}(e:h.objs.size=n):step (denote treeTable) p w ⟨h,g,d,k,os⟩ ⟨.alloc x y,code,q,stack⟩=.go ⟨h.push x,g,d,k,os⟩ ⟨y n,code,q,stack⟩:=by
 subst e; rfl
theorem GH {call:fP}(hc:yR p w n₀ ann d os call){code:Code}{below:List (Code × Pos)}{α:Type}(t:Sem α):
  ∀q T n k c x,go call p w n₀ ann code below t q T n k c=some x→uJ p w n₀ ann d os code below t q T n k c x:=by
 induction t with
 |pure a=>
  intro q T n k c x h
  cases h
  exact ⟨0,rfl,fun K H gd lv stack hb hn N res h=>by rw [Nat.zero_add]; exact h⟩
 |raise e=>
  intro q T n k c x h
  cases h
  exact ⟨0,rfl,fun K H gd lv stack hb hn N res h=>by rw [Nat.zero_add]; exact h⟩
 |rule z y ih=>exact fun q T n k c x h=>(ih () _ _ _ _ _ _ h).one (fun zz zz zz zz zz=>Bool.and_false _) (fun zz zz zz zz zz=>rfl) (fun zz zz zz zz zz zz zz=>rfl)
 | «at» z y ih=>exact fun q T n k c x h=>(ih () _ _ _ _ _ _ h).one (fun zz zz zz zz zz=>Bool.and_false _) (fun zz zz zz zz zz=>rfl) (fun zz zz zz zz zz zz zz=>rfl)
 |point z y ih=>exact fun q T n k c x h=>(ih () _ _ _ _ _ _ h).one (fun zz zz zz zz zz=>Bool.and_false _) (fun zz zz zz zz zz=>rfl) (fun zz zz zz zz zz zz zz=>rfl)
 |fresh y ih=>exact fun q T n k c x h=>(ih k _ _ _ _ _ _ h).one (fun zz zz zz zz zz=>Bool.and_false _) (fun zz zz zz zz zz=>rfl) (fun zz zz zz zz zz zz zz=>rfl)
 |ask y ih=>exact fun q T n k c x h=>(ih _ _ _ _ _ _ _ h).one (fun zz zz zz zz zz=>Bool.and_false _) (fun zz zz zz zz zz=>rfl) (fun zz zz zz zz zz zz zz=>rfl)
 |stack y ih=>
  exact fun q T n k c x h=>(ih _ _ _ _ _ _ _ h).one (fun zz zz zz zz zz=>Bool.and_false _) (fun zz zz zz zz zz=>rfl)
   (fun K H gd lv stack hb zz=>congrArg (fun b=>Step.go (St T n k d os) ⟨(y ((code,q)::b)).wrap K H gd lv,code,q,stack⟩) hb)
 |load a part y ih=>
  intro q T n k c x h
  obtain ⟨e1,h⟩:=eO h
  obtain ⟨o,e2,h⟩:=bS h
  obtain ⟨o',e3,h⟩:=bS h
  refine (ih _ _ _ _ _ _ _ h).one (fun zz zz zz zz zz=>Bool.and_false _) (fun zz zz zz zz zz=>rfl) (fun K H gd lv stack zz zz=>?_)
  exact ZI ((abs_get (yQ e1) e2).trans e3)
 |update a part f y ih=>
  intro q T n k c x h
  obtain ⟨e0,h⟩:=eO h
  obtain ⟨e1,h⟩:=eO h
  obtain ⟨o,e2,h⟩:=bS h
  obtain ⟨o',e3,h⟩:=bS h
  refine (ih _ _ _ _ _ _ _ h).one (fun zz zz zz zz zz=>Bool.and_false _) (fun zz zz zz zz zz=>?_) (fun K H gd lv stack zz zz=>?_)
  ·show (_ && dM n₀ ann a)=true
   rw [e0]; rfl
  ·show step (denote treeTable) p w ⟨absHeap T n {},_,_,_,_⟩ ⟨.update a part f _,code,q,stack⟩=.go ⟨absHeap (T.set a f) n {},_,_,_,_⟩ _
   rw [absHeap_set e2]
   exact ZJ ((abs_get (yQ e1) e2).trans e3)
 |alloc o y ih=>
  intro q T n k c x h
  obtain ⟨e1,h⟩:=eO h
  refine (ih _ _ _ _ _ _ _ h).one (fun zz zz zz zz zz=>Bool.and_false _) (fun zz zz zz zz zz=>rfl) (fun K H gd lv stack zz zz=>?_)
  show step (denote treeTable) p w ⟨absHeap T n {},_,_,_,_⟩ ⟨.alloc o _,code,q,stack⟩=.go ⟨absHeap (T.ins n o) (n+1) {},_,_,_,_⟩ _
  rw [absHeap_ins e1]
  exact ZK (absHeap_size ..)
 |loadIfAlive a y ih=>
  intro q T n k c x h
  have h:(match Nat.blt a n with |true=>onO (T.get a) fun o=>go call p w n₀ ann code below (y (alive o)) q T n k (c+1) |false=>go call p w n₀ ann code below (y none) q T n k (c+1))=some x:=h
  cases e1:Nat.blt a n with
  |false=>
   rw [e1] at h
   refine (ih _ _ _ _ _ _ _ h).one (fun zz zz zz zz zz=>Bool.and_false _) (fun zz zz zz zz zz=>rfl) (fun K H gd lv stack zz zz=>?_)
   exact congrArg (fun b=>Step.go (St T n k d os) ⟨(y b).wrap K H gd lv,code,q,stack⟩) (abs_get_none (ZD e1))
  |true=>
   rw [e1] at h
   obtain ⟨o,e2,h⟩:=bS h
   refine (ih _ _ _ _ _ _ _ h).one (fun zz zz zz zz zz=>Bool.and_false _) (fun zz zz zz zz zz=>rfl) (fun K H gd lv stack zz zz=>?_)
   exact congrArg (fun b=>Step.go (St T n k d os) ⟨(y b).wrap K H gd lv,code,q,stack⟩) (abs_get (yQ e1) e2)
 |handled own y ih=>
  refine fun q T n k c x h=>(ih _ _ _ _ _ _ _ h).one (fun zz zz zz zz zz=>Bool.and_false _) (fun zz zz zz zz zz=>rfl) (fun K H gd lv stack zz hn=>?_)
  have:topHandled (if own then (match splitAtGen stack with |some (fs,_,_)=>fs |none=>stack) else stack)=none:=by
   rw [hn.2]; cases own <;> exact hn.1
  exact congrArg (fun x=>Step.go (St T n k d os) ⟨(y x).wrap K H gd lv,code,q,stack⟩) this
 |call cc hd g l y ih=>
  intro q T n k c x h
  cases hd with
  |some _=>cases h
  |none=>
  obtain ⟨⟨r1,T1,n1,k1,c1⟩,e1,h⟩:=bS h
  obtain ⟨e,he,hr⟩:=ih _ _ _ _ _ _ _ h
  obtain ⟨e',he',hr'⟩:=hc _ _ _ _ _ _ _ _ e1
  refine ⟨e'+e+1,he.trans ((congrArg (·+e) he').trans ((Nat.add_assoc (c+1) e' e).trans (Nat.add_right_comm c 1 (e'+e)))),fun K H gd lv stack hb hn N res h=>?_⟩
  refine GF (Bool.and_false _) rfl (by rfl) ?_
  rw [Nat.add_assoc e' e N]
  exact hr' _ _ _ _ _ _ _ (by rw [hb]) hn _ _ (hr K H gd lv stack hb hn N res h)
 |_=>intro q T n k c x h; cases h
theorem GI {α:Type}(t:Sem α):t.wrap .pure .raise id id=t:=by
 induction t <;> first |rfl |exact congrArg _ (funext ‹_›)
theorem ZL {c2 code:Code}{pos:Pos}{stack:List Frame}(h:GA c2=true):stepOk n₀ ann ⟨.pure (.again c2),code,pos,stack⟩=true:=by
 cases c2 with
 |builtin id args=>
  have h:(!id.startsWith "lifetime.")=true:=h
  show (((!id.startsWith "lifetime." || _) && true && true) && true)=true
  rw [h]
  rfl
 |_=>rfl
theorem ZM:∀m,yR p w n₀ ann d os (oP (denote treeTable) p w n₀ ann m):=by
 intro m
 induction m with
 |zero=>exact fun cc below q T n k c x h=>nomatch h
 |succ m ih=>
  intro cc below q T n k c x h
  obtain ⟨⟨r1,q1,T1,n1,k1,c1⟩,e1,h⟩:=bS h
  obtain ⟨e,he,hr⟩:=GH ih _ _ _ _ _ _ _ e1
  have he:c1=c+e:=he
  have key:∀{kk g l code pos kept stack N M res},(code,pos)::stack.map Frame.where_=below→HN stack→M=e+N →
    topRun treeTable p w n₀ ann N (St T1 n1 k1 d os) ⟨GG .pure .raise r1,cc,q1,.ret kk none g l code pos kept::stack⟩=some res →
    topRun treeTable p w n₀ ann M (St T n k d os) ⟨denote treeTable cc,cc,q,.ret kk none g l code pos kept::stack⟩=some res:=fun {kk g l code pos kept stack N M res} hb hn hm hh=>by
   have:=hr .pure .raise id id (.ret kk none g l code pos kept::stack) (by rw [List.map_cons]; exact hb) hn.ret N res hh
   rw [GI] at this
   rw [hm]
   exact this
  cases r1 with
  |error z=>
   cases h
   exact ⟨e+1,congrArg (·+1) he,fun kk g l code pos kept stack hb hn N res hh=>key hb hn (Nat.add_right_comm e 1 N) (uI rfl rfl rfl hh)⟩
  |ok fin=>
   cases fin with
   |done f=>
    cases h
    exact ⟨e+1,congrArg (·+1) he,fun kk g l code pos kept stack hb hn N res hh=>key hb hn (Nat.add_right_comm e 1 N) (uI rfl rfl rfl hh)⟩
   |again c2=>
    obtain ⟨e2,h⟩:=eO h
    obtain ⟨e',he',hr'⟩:=ih _ _ _ _ _ _ _ _ h
    exact ⟨e+1+e',he'.trans (by subst he; simp only [Nat.add_assoc]),fun kk g l code pos kept stack hb hn N res hh=>key hb hn ((Nat.add_assoc (e+1) e' N).trans (Nat.add_right_comm e 1 (e'+N)))
     (uI rfl (ZL e2) (step_again (den:=denote treeTable)) (hr' kk g l code pos _ stack hb hn N res hh))⟩
end
section
variable {call:fP}{p:Program}{w:World}{n₀:Nat}{ann:Option Value}{code:Code}{below:List (Code × Pos)}{α β:Type}
noncomputable def hO (r:Res (Except Value α))(f:α→Pos→BT→Nat→Nat→Nat→Res (Except Value β)):Res (Except Value β):=match r with
 |some (.ok a,q,T,n,k,c)=>f a q T n k c
 |some (.error e,q,T,n,k,c)=>some (.error e,q,T,n,k,c)
 |none=>none
theorem uK {b:Bool}{x:Res (Except Value α)}{y:Res (Except Value β)}{f:α→Pos→BT→Nat→Nat→Nat→Res (Except Value β)}(h:y=hO x f):onB b y=hO (onB b x) f:=by
 cases b
 ·rfl
 ·exact h
theorem oQ {δ:Type}{o:Option δ}{x:δ→Res (Except Value α)}{y:δ→Res (Except Value β)}{f:α→Pos→BT→Nat→Nat→Nat→Res (Except Value β)}(h:∀z,y z=hO (x z) f):onO o y=hO (onO o x) f:=by
 cases o with
 |none=>rfl
 |some z=>exact h z
theorem ZN (t:Sem α)(f:α→Sem β):∀(q:Pos) (T:BT) (n k c:Nat),go call p w n₀ ann code below (t.bind f) q T n k c=hO (go call p w n₀ ann code below t q T n k c) fun a=>go call p w n₀ ann code below (f a):=by
 induction t with
 |rule x y ih=>exact fun q T n k c=>ih () q T n k (c+1)
 | «at» x y ih=>exact fun q T n k c=>ih () x T n k (c+1)
 |point x y ih=>exact fun q T n k c=>ih () q T n k (c+1)
 |fresh y ih=>exact fun q T n k c=>ih k q T n (k+1) (c+1)
 |ask y ih=>exact fun q T n k c=>ih _ q T n k (c+1)
 |stack y ih=>exact fun q T n k c=>ih _ q T n k (c+1)
 |load a part y ih=>exact fun q T n k c=>uK (oQ fun zz=>oQ fun zz=>ih _ _ _ _ _ _)
 |update a part g y ih=>exact fun q T n k c=>uK (uK (oQ fun zz=>oQ fun zz=>ih _ _ _ _ _ _))
 |alloc o y ih=>exact fun q T n k c=>uK (ih _ _ _ _ _ _)
 |loadIfAlive a y ih=>
  intro q T n k c
  show (match Nat.blt a n with |true=>onO (T.get a) fun o=>go call p w n₀ ann code below ((y (alive o)).bind f) q T n k (c+1) |false=>go call p w n₀ ann code below ((y none).bind f) q T n k (c+1))
   = hO (match Nat.blt a n with |true=>onO (T.get a) fun o=>go call p w n₀ ann code below (y (alive o)) q T n k (c+1) |false=>go call p w n₀ ann code below (y none) q T n k (c+1)) _
  cases Nat.blt a n with
  |false=>exact ih _ _ _ _ _ _
  |true=>exact oQ fun zz=>ih _ _ _ _ _ _
 |handled own y ih=>exact fun q T n k c=>ih _ q T n k (c+1)
 |call cc hd g l y ih=>
  cases hd with
  |some _=>exact fun q T n k c=>rfl
  |none=>exact fun q T n k c=>oQ fun zz=>ih _ _ _ _ _ _
 |_=>exact fun q T n k c=>rfl
theorem iP (t:Sem α)(f:α→Sem β)(q:Pos)(T:BT)(n k c:Nat):go call p w n₀ ann code below (t>>=f) q T n k c=hO (go call p w n₀ ann code below t q T n k c) fun a=>go call p w n₀ ann code below (f a):=ZN t f q T n k c
theorem oR {δ γ:Type}{o:Option δ}{f g:δ→Option γ}(h:∀y,f y=g y):onO o f=onO o g:=congrArg _ (funext h)
theorem ZP (vs:List Value)(t:Sem α):∀(q:Pos) (T:BT) (n k c:Nat),go call p w n₀ ann code below (t.keep vs) q T n k c=go call p w n₀ ann code below t q T n k c:=by
 induction t with
 |rule x y ih=>exact fun q T n k c=>ih () q T n k (c+1)
 | «at» x y ih=>exact fun q T n k c=>ih () x T n k (c+1)
 |point x y ih=>exact fun q T n k c=>ih () q T n k (c+1)
 |fresh y ih=>exact fun q T n k c=>ih k q T n (k+1) (c+1)
 |ask y ih=>exact fun q T n k c=>ih _ q T n k (c+1)
 |stack y ih=>exact fun q T n k c=>ih _ q T n k (c+1)
 |load a part y ih=>exact fun q T n k c=>congrArg (onB _) (oR fun zz=>oR fun zz=>ih _ _ _ _ _ _)
 |update a part g y ih=>exact fun q T n k c=>congrArg (fun x=>onB _ (onB _ x)) (oR fun zz=>oR fun zz=>ih _ _ _ _ _ _)
 |alloc o y ih=>exact fun q T n k c=>congrArg (onB _) (ih _ _ _ _ _ _)
 |loadIfAlive a y ih=>
  intro q T n k c
  show (match Nat.blt a n with |true=>onO (T.get a) fun o=>go call p w n₀ ann code below ((y (alive o)).keep vs) q T n k (c+1) |false=>go call p w n₀ ann code below ((y none).keep vs) q T n k (c+1))
   = (match Nat.blt a n with |true=>onO (T.get a) fun o=>go call p w n₀ ann code below (y (alive o)) q T n k (c+1) |false=>go call p w n₀ ann code below (y none) q T n k (c+1))
  cases Nat.blt a n with
  |false=>exact ih _ _ _ _ _ _
  |true=>exact oR fun zz=>ih _ _ _ _ _ _
 |handled own y ih=>exact fun q T n k c=>ih _ q T n k (c+1)
 |call cc hd g l y ih=>
  cases hd with
  |some _=>exact fun q T n k c=>rfl
  |none=>exact fun q T n k c=>oR fun zz=>ih _ _ _ _ _ _
 |_=>exact fun q T n k c=>rfl
theorem ZQ (vs:List Value)(t:Sem α)(q:Pos)(T:BT)(n k c:Nat):go call p w n₀ ann code below (holding vs t) q T n k c=go call p w n₀ ann code below t q T n k c:=by
 unfold holding
 split
 ·rfl
 ·exact ZP _ _ _ _ _ _ _
theorem ZT {t:Sem α}(h:Value→Sem Unit):∀{q:Pos} {T:BT} {n k c:Nat} {x:Except Value α × Pos × BT × Nat × Nat × Nat} {a:α},go call p w n₀ ann code below t q T n k c=some x→x.1=.ok a →
  go call p w n₀ ann code below (t.onRaise h) q T n k c=some x:=by
 induction t with
 |pure a=>exact fun e zz=>e
 |raise e=>exact fun e g=>by cases e; cases g
 |rule x y ih=>exact fun e=>ih () e
 | «at» x y ih=>exact fun e=>ih () e
 |point x y ih=>exact fun e=>ih () e
 |fresh y ih=>exact fun e=>ih _ e
 |ask y ih=>exact fun e=>ih _ e
 |stack y ih=>exact fun e=>ih _ e
 |load x part y ih=>exact fun e g=>let ⟨e1,e⟩:=eO e; let ⟨_,e2,e⟩:=bS e; let ⟨_,e3,e⟩:=bS e; fQ e1 (dG e2 (dG e3 (ih _ e g)))
 |update x part f y ih=>exact fun e g=>let ⟨e0,e⟩:=eO e; let ⟨e1,e⟩:=eO e; let ⟨_,e2,e⟩:=bS e; let ⟨_,e3,e⟩:=bS e; fQ e0 (fQ e1 (dG e2 (dG e3 (ih _ e g))))
 |alloc o y ih=>exact fun e g=>let ⟨e1,e⟩:=eO e; fQ e1 (ih _ e g)
 |loadIfAlive x y ih=>
  intro q T n k c z a e g
  have e:(match Nat.blt x n with |true=>onO (T.get x) fun o=>go call p w n₀ ann code below (y (alive o)) q T n k (c+1) |false=>go call p w n₀ ann code below (y none) q T n k (c+1))=some z:=e
  show (match Nat.blt x n with |true=>onO (T.get x) fun o=>go call p w n₀ ann code below ((y (alive o)).onRaise h) q T n k (c+1) |false=>go call p w n₀ ann code below ((y none).onRaise h) q T n k (c+1))=some z
  cases e1:Nat.blt x n with
  |false=>rw [e1] at e; exact ih _ e g
  |true=>rw [e1] at e; exact let ⟨_,e2,e⟩:=bS e; dG e2 (ih _ e g)
 |handled own y ih=>exact fun e=>ih _ e
 |call cc hd g l y ih=>
  cases hd with
  |some _=>exact fun e=>nomatch e
  |none=>exact fun e g=>let ⟨_,e2,e⟩:=bS e; dG e2 (ih _ e g)
 |_=>exact fun e=>nomatch e
theorem GJ {t:Sem α}(h:Value→Sem Unit){q:Pos}{T:BT}{n k c:Nat}{a:α}{x:Pos × BT × Nat × Nat × Nat}(e:go call p w n₀ ann code below t q T n k c=some (.ok a,x)):
  go call p w n₀ ann code below (t.onRaise h) q T n k c=some (.ok a,x):=ZT h e rfl
noncomputable def kP {α:Type}(e:Nat)(x:α × Pos × BT × Nat × Nat × Nat):α × Pos × BT × Nat × Nat × Nat:=(x.1,x.2.1,x.2.2.1,x.2.2.2.1,x.2.2.2.2.1,e+x.2.2.2.2.2)
noncomputable def rV (call:fP):Prop:=∀{cc below q T n k c} {x:Ret} (e:Nat),call cc below q T n k c=some x→call cc below q T n k (e+c)=some (x.1,x.2.1,x.2.2.1,x.2.2.2.1,e+x.2.2.2.2)
theorem GK (hc:rV call)(t:Sem α):∀{q:Pos} {T:BT} {n k c:Nat} {x:Except Value α × Pos × BT × Nat × Nat × Nat} (e:Nat),go call p w n₀ ann code below t q T n k c=some x →
  go call p w n₀ ann code below t q T n k (e+c)=some (kP e x):=by
 induction t with
 |pure a=>exact fun e h=>by cases h; rfl
 |raise x=>exact fun e h=>by cases h; rfl
 |rule x y ih=>exact fun e h=>ih () e h
 | «at» x y ih=>exact fun e h=>ih () e h
 |point x y ih=>exact fun e h=>ih () e h
 |fresh y ih=>exact fun e h=>ih _ e h
 |ask y ih=>exact fun e h=>ih _ e h
 |stack y ih=>exact fun e h=>ih _ e h
 |load x part y ih=>exact fun d e=>let ⟨e1,e⟩:=eO e; let ⟨_,e2,e⟩:=bS e; let ⟨_,e3,e⟩:=bS e; fQ e1 (dG e2 (dG e3 (ih _ d e)))
 |update x part f y ih=>exact fun d e=>let ⟨e0,e⟩:=eO e; let ⟨e1,e⟩:=eO e; let ⟨_,e2,e⟩:=bS e; let ⟨_,e3,e⟩:=bS e; fQ e0 (fQ e1 (dG e2 (dG e3 (ih _ d e))))
 |alloc o y ih=>exact fun d e=>let ⟨e1,e⟩:=eO e; fQ e1 (ih _ d e)
 |loadIfAlive x y ih=>
  intro q T n k c z d e
  have e:(match Nat.blt x n with |true=>onO (T.get x) fun o=>go call p w n₀ ann code below (y (alive o)) q T n k (c+1) |false=>go call p w n₀ ann code below (y none) q T n k (c+1))=some z:=e
  show (match Nat.blt x n with |true=>onO (T.get x) fun o=>go call p w n₀ ann code below (y (alive o)) q T n k (d+c+1) |false=>go call p w n₀ ann code below (y none) q T n k (d+c+1))=some (kP d z)
  cases e1:Nat.blt x n with
  |false=>rw [e1] at e; exact ih _ d e
  |true=>rw [e1] at e; exact let ⟨_,e2,e⟩:=bS e; dG e2 (ih _ d e)
 |handled own y ih=>exact fun e h=>ih _ e h
 |call cc hd g l y ih=>
  cases hd with
  |some _=>exact fun zz e=>nomatch e
  |none=>exact fun d e=>let ⟨_,e2,e⟩:=bS e; dG (hc d e2) (ih _ d e)
 |_=>exact fun zz e=>nomatch e
theorem uL (hc:rV call)(t:Sem α){q:Pos}{T:BT}{n k c:Nat}{a:Except Value α}{q':Pos}{T':BT}{n' k' c':Nat}(e:Nat)(h:go call p w n₀ ann code below t q T n k c=some (a,q',T',n',k',c')):
  go call p w n₀ ann code below t q T n k (e+c)=some (a,q',T',n',k',e+c'):=GK hc t e h
theorem oS {den:Code→Sem Fin}:∀m,rV (oP den p w n₀ ann m):=by
 intro m
 induction m with
 |zero=>exact fun zz h=>nomatch h
 |succ m ih=>
  intro cc below q T n k c x e h
  obtain ⟨⟨r1,q1,T1,n1,k1,c1⟩,e1,h⟩:=bS h
  refine dG (GK ih _ e e1) ?_
  match r1,h with
  |.error _,h=>cases h; rfl
  |.ok (.done _),h=>cases h; rfl
  |.ok (.again _),h=>exact let ⟨e2,h⟩:=eO h; fQ e2 (ih e h)
end
section
variable {call:fP}{p:Program}{w:World}{n₀:Nat}{ann:Option Value}{code:Code}{below:List (Code × Pos)}{α β:Type}
noncomputable def GE (call:fP)(p:Program)(w:World)(n₀:Nat)(ann:Option Value)(code:Code)(below:List (Code × Pos)){α:Type}(t:Sem α)(T:BT)(n k:Nat)(a:α)(T':BT)(n' k' B:Nat):Prop:=
 ∀q c,∃e q',e≤B∧go call p w n₀ ann code below t q T n k c=some (.ok a,q',T',n',k',c+e)
theorem GE.bind {t:Sem α}{f:α→Sem β}{T n k a T1 n1 k1 B1 b T2 n2 k2 B2}(h:GE call p w n₀ ann code below t T n k a T1 n1 k1 B1)(g:GE call p w n₀ ann code below (f a) T1 n1 k1 b T2 n2 k2 B2):GE call p w n₀ ann code below (t>>=f) T n k b T2 n2 k2 (B1+B2):=fun q c=>by
 obtain ⟨e1,q1,h1,h2⟩:=h q c
 obtain ⟨e2,q2,g1,g2⟩:=g q1 (c+e1)
 exact ⟨e1+e2,q2,by exact Nat.add_le_add h1 g1,by rw [iP,h2]; show go _ _ _ _ _ _ _ _ _ _ _ _ _=_; rw [g2,Nat.add_assoc]⟩
theorem GE.pure {a:α}{T n k}:GE call p w n₀ ann code below (pure a:Sem α) T n k a T n k 0:=fun q c=>⟨0,q,Nat.le_refl _,rfl⟩
theorem GE.mono {t:Sem α}{T n k a T' n' k' B B'}(h:GE call p w n₀ ann code below t T n k a T' n' k' B)(l:B≤B'):GE call p w n₀ ann code below t T n k a T' n' k' B':=fun q c=>let ⟨e,q',h1,h2⟩:=h q c; ⟨e,q',Nat.le_trans h1 l,h2⟩
theorem GE.rule {x:String}{T n k}:GE call p w n₀ ann code below (rule x) T n k () T n k 1:=fun q c=>⟨1,q,Nat.le_refl _,rfl⟩
theorem GE.standAt {x:Pos}{T n k}:GE call p w n₀ ann code below (standAt x) T n k () T n k 1:=fun q c=>⟨1,x,Nat.le_refl _,rfl⟩
theorem GE.fresh {T n k}:GE call p w n₀ ann code below fresh T n k k T n (k+1) 1:=fun q c=>⟨1,q,Nat.le_refl _,rfl⟩
theorem GE.loadPart {d:Addr}{part:Option Value}{o:Obj}{T n k}(g:T.get d=some o)(al:alive o=some o)(l:d<n):GE call p w n₀ ann code below (loadPart d part) T n k o T n k 1:=fun q c=>⟨1,q,Nat.le_refl _,fQ (Nat.ble_eq_true_of_le l) (dG g (dG al rfl))⟩
theorem GE.load {d:Addr}{o:Obj}{T n k}(g:T.get d=some o)(al:alive o=some o)(l:d<n):GE call p w n₀ ann code below (load d) T n k o T n k 1:=GE.loadPart g al l
theorem GE.updatePart {d:Addr}{part:Option Value}{o:Obj}{f:Obj→Obj}{T n k}(m:dM n₀ ann d=true)(g:T.get d=some o)(al:alive o=some o)(l:d<n):GE call p w n₀ ann code below (updatePart d part f) T n k () (T.set d f) n k 1:=fun q c=>⟨1,q,Nat.le_refl _,fQ m (fQ (Nat.ble_eq_true_of_le l) (dG g (dG al rfl)))⟩
theorem GE.alloc {o:Obj}{T n k}(g:((T.ins n o).get n).isSome=true):GE call p w n₀ ann code below (alloc o) T n k n (T.ins n o) (n+1) k 1:=fun q c=>⟨1,q,Nat.le_refl _,fQ g rfl⟩
theorem GE.holding {vs:List Value}{t:Sem α}{T n k a T' n' k' B}(h:GE call p w n₀ ann code below t T n k a T' n' k' B):GE call p w n₀ ann code below (holding vs t) T n k a T' n' k' B:=fun q c=>let ⟨e,q',h1,h2⟩:=h q c; ⟨e,q',h1,(ZQ ..).trans h2⟩
theorem GE.onRaise {x:Value→Sem Unit}{t:Sem α}{T n k a T' n' k' B}(h:GE call p w n₀ ann code below t T n k a T' n' k' B):GE call p w n₀ ann code below (t.onRaise x) T n k a T' n' k' B:=fun q c=>let ⟨e,q',h1,h2⟩:=h q c; ⟨e,q',h1,GJ x h2⟩
theorem GE.of {t:Sem α}{T n k a T' n' k' B}(hc:rV call)(h:∀q,go call p w n₀ ann code below t q T n k 0=some (.ok a,q,T',n',k',B)):GE call p w n₀ ann code below t T n k a T' n' k' B:=fun q c=>⟨B,q,Nat.le_refl _,uL hc t c (h q)⟩
theorem GE.forNil {γ:Type}{b:β}{f:γ→β→Sem (ForInStep β)}{T n k}:GE call p w n₀ ann code below (forIn ([]:List γ) b f) T n k b T n k 0:=GE.pure
theorem GE.forCons {γ:Type}{x:γ}{l:List γ}{b b1 b2:β}{f:γ→β→Sem (ForInStep β)}{T n k T1 n1 k1 B1 T2 n2 k2 B2}(h:GE call p w n₀ ann code below (f x b) T n k (.yield b1) T1 n1 k1 B1)(g:GE call p w n₀ ann code below (forIn l b1 f) T1 n1 k1 b2 T2 n2 k2 B2):GE call p w n₀ ann code below (forIn (x::l) b f) T n k b2 T2 n2 k2 (B1+B2):=by
 rw [List.forIn_cons]
 exact GE.bind h g
noncomputable abbrev aI (es:List DictEntry)(ep:Nat):Obj:=⟨.type "dict",none,.dict es.toArray ep,#[]⟩
section
variable {T:BT}{d:Addr}{es:List DictEntry}{ep n k:Nat}{part:Option Value}
theorem GE.dictEntries (g:T.get d=some (aI es ep))(l:d<n):GE call p w n₀ ann code below (dictEntries d part) T n k es.toArray T n k 1:=by
 unfold PySem.dictEntries
 refine GE.bind (B1:=1) (B2:=0) (GE.loadPart g rfl l) ?_
 exact GE.pure
theorem GE.dictEpoch (g:T.get d=some (aI es ep))(l:d<n):GE call p w n₀ ann code below (dictEpoch d part) T n k ep T n k 1:=by
 unfold PySem.dictEpoch
 refine GE.bind (B1:=1) (B2:=0) (GE.loadPart g rfl l) ?_
 exact GE.pure
theorem ZU (g:T.get d=some (aI es ep))(e:DictEntry):(T.set d (Obj.mapDictKeys (·.push e))).get d=some (aI (es++[e]) (ep+1)):=by
 rw [BT.get_set,if_pos rfl,g]
 show some (Obj.mapDictKeys (·.push e) (aI es ep))=_
 simp only [Obj.mapDictKeys,List.push_toArray]
theorem GE.dictPush {e:DictEntry}(m:dM n₀ ann d=true)(g:T.get d=some (aI es ep))(l:d<n)(hz:es.length<100000):
  GE call p w n₀ ann code below (updateDictKeys d (·.push e) part) T n k () (T.set d (Obj.mapDictKeys (·.push e))) n k 3:=by
 unfold PySem.updateDictKeys
 refine GE.bind (B1:=1) (B2:=2) (GE.loadPart g rfl l) ?_
 refine GE.bind (B1:=1) (B2:=1) (GE.updatePart m g rfl l) ?_
 unfold PySem.lookBehind
 refine GE.bind (B1:=1) (B2:=0) (GE.loadPart (ZU g e) rfl l) ?_
 dsimp only
 rw [pastItsLine_dict (by rw [List.size_toArray,List.length_append,List.length_singleton]; unfold sizeLine; exact Nat.lt_of_lt_of_le hz (by decide))]
 exact GE.pure
theorem ZV {h:Int}(hn:∀e∈es,e.hash≠h):placesWithHash es.toArray.size (fun i=>es.toArray[i]?.map (·.hash)) h=[]:=by
 unfold placesWithHash
 rw [List.filter_eq_nil_iff]
 intro i _
 show ¬ (Option.map (fun x=>x.hash) es.toArray[i]?==some h)=true
 rw [List.getElem?_toArray]
 cases e:es[i]? with
 |none=>simp
 |some x=>
  have:=hn x (List.mem_of_getElem? e)
  simpa using this
theorem GE.dictFind {j:Int}{t:Tok}(g:T.get d=some (aI es ep))(l:d<n)(hn:∀e∈es,e.hash≠j):GE call p w n₀ ann code below (dictFind d (.int j t) j) T n k none T n k 1:=by
 unfold PySem.dictFind
 refine GE.holding ?_
 refine GE.bind (B1:=1) (B2:=0) (GE.dictEntries g l) ?_
 dsimp only
 rw [ZV hn]
 exact GE.pure
theorem GE.dictSetHashed {j:Int}{t:Tok}{v:Value}(m:dM n₀ ann d=true)(g:T.get d=some (aI es ep))(l:d<n)(hz:es.length<100000)(hn:∀e∈es,e.hash≠j):
  GE call p w n₀ ann code below (dictSetHashed d (.int j t) j v) T n k () (T.set d (Obj.mapDictKeys (·.push ⟨j,.int j t,v⟩))) n k 5:=by
 unfold PySem.dictSetHashed
 refine GE.holding ?_
 refine GE.bind (B1:=1) (B2:=4) (GE.dictFind g l hn) ?_
 refine GE.bind (B1:=1) (B2:=3) GE.rule ?_
 exact GE.dictPush m g l hz
theorem GE.dictPut {j:Int}{t:Tok}{v:Value}(m:dM n₀ ann d=true)(g:T.get d=some (aI es ep))(l:d<n)(hz:es.length<100000)(hn:∀e∈es,e.hash≠j):
  GE call p w n₀ ann code below (dictPut d j (.int j t) v) T n k () (T.set d (Obj.mapDictKeys (·.push ⟨j,.int j t,v⟩))) n k 4:=by
 unfold PySem.dictPut
 refine GE.bind (B1:=1) (B2:=3) (GE.dictFind g l hn) ?_
 exact GE.dictPush m g l hz
end
end
section
variable {p:Program}{w:World}{n₀:Nat}{ann:Option Value}{code:Code}{below:List (Code × Pos)}
noncomputable abbrev cQ (p:Program)(w:World)(n₀:Nat)(ann:Option Value):fP:=oP kM p w n₀ ann 90
theorem ZW {j:Int}{t:Tok}{q:Pos}{T:BT}{n k:Nat}(w:World):go (cQ p (w.withFollow "special-get-raises" false) n₀ ann) p (w.withFollow "special-get-raises" false) n₀ ann code below (pyHash (.int j t)) q T n k 0
  = go (cQ p (w.withFollow "special-get-raises" false) n₀ ann) p (w.withFollow "special-get-raises" false) n₀ ann code below (pyHashByItsType.reduced (PySem.rawHash j)) q T n (k+1) 5:=by kernel_rfl
theorem ZX {j:Int}{t:Tok}{q:Pos}{T:BT}{n k:Nat}(w:World):go (cQ p (w.withFollow "special-get-raises" true) n₀ ann) p (w.withFollow "special-get-raises" true) n₀ ann code below (pyHash (.int j t)) q T n k 0
  = go (cQ p (w.withFollow "special-get-raises" true) n₀ ann) p (w.withFollow "special-get-raises" true) n₀ ann code below (pyHashByItsType.reduced (PySem.rawHash j)) q T n (k+1) 5:=by kernel_rfl
theorem ZY {j:Int}{t:Tok}{q:Pos}{T:BT}{n k:Nat}:go (cQ p w n₀ ann) p w n₀ ann code below (pyHash (.int j t)) q T n k 0=go (cQ p w n₀ ann) p w n₀ ann code below (pyHashByItsType.reduced (PySem.rawHash j)) q T n (k+1) 5:=
 byRow2 "special-get-raises" (P:=fun w=>go (cQ p w n₀ ann) p w n₀ ann code below (pyHash (.int j t)) q T n k 0=go (cQ p w n₀ ann) p w n₀ ann code below (pyHashByItsType.reduced (PySem.rawHash j)) q T n (k+1) 5) ZW ZX w
theorem GE.pyHash {j:Int}{t:Tok}{T:BT}{n k:Nat}(h0:0≤j)(h1:j<2000000):GE (cQ p w n₀ ann) p w n₀ ann code below (pyHash (.int j t)) T n k j T n (k+1) 5:=by
 refine GE.of (oS _) fun q=>?_
 rw [ZY]
 have e:PySem.rawHash j=j:=by
  unfold PySem.rawHash
  have:((j.natAbs:Nat):Int)=j:=by omega
  have h2:((j.natAbs:Int)%((2 ^ 61-1:Nat):Int))=j:=by rw [this]; omega
  have hlt:¬ j<0:=by exact Int.not_lt.mpr h0
  have hn:(j==-1)=false:=by rw [beq_eq_false_iff_ne]; exact Int.ne_of_gt h0
  simp only [h2,if_neg hlt,hn]
  rfl
 rw [e]
 unfold pyHashByItsType.reduced
 have c1:(decide (-(2 ^ 63:Int)≤j) && decide (j<2 ^ 63))=true:=by rw [decide_eq_true (by exact Int.le_trans (by decide) h0),decide_eq_true (by exact Int.lt_of_lt_of_le h1 (by decide))]; rfl
 rw [if_pos c1]
 have:(j==-1)=false:=by rw [beq_eq_false_iff_ne]; exact Int.ne_of_gt h0
 rw [this]
 rfl
theorem ZZ {q:Pos}{T:BT}{n k:Nat}:go (cQ p w n₀ ann) p w n₀ ann code below (isSubtype (.type "dict") (.type "dict")) q T n k 0=some (.ok true,q,T,n,k,0):=by kernel_rfl
theorem aAa {q:Pos}{T:BT}{n k:Nat}:go (cQ p w n₀ ann) p w n₀ ann code below (typeLookup (.type "dict") "__iter__") q T n k 0=some (.ok (some (.builtin "dict.__iter__")),q,T,n,k,0):=by kernel_rfl
end
theorem BT.set_set (f g:Obj→Obj):∀(t:BT) (a:Nat),(t.set a f).set a g=t.set a fun o=>g (f o)
 |.nil,_=>rfl
 |.node v l r,a=>by
  rw [BT.set_node,BT.set_node]
  by_cases h:a=0
  ·simp only [if_pos h]; rw [BT.set_node,if_pos h]
  ·simp only [if_neg h]
   by_cases q:a%2=1
   ·simp only [if_pos q]; rw [BT.set_node,if_neg h,if_pos q,BT.set_set f g l]
   ·simp only [if_neg q]; rw [BT.set_node,if_neg h,if_neg q,BT.set_set f g r]
theorem BT.set_at (f:Obj→Obj)(o:Obj):∀(t:BT) (a:Nat),t.get a=some o→t.set a f=t.set a fun zz=>f o
 |.nil,_,_=>rfl
 |.node v l r,a,e=>by
  rw [BT.get_node] at e
  rw [BT.set_node,BT.set_node]
  by_cases h:a=0
  ·simp only [if_pos h] at e ⊢; cases e; rfl
  ·simp only [if_neg h] at e ⊢
   by_cases q:a%2=1
   ·simp only [if_pos q] at e ⊢; rw [BT.set_at f o l _ e]
   ·simp only [if_neg q] at e ⊢; rw [BT.set_at f o r _ e]
theorem BT.set_same (o:Obj):∀(t:BT) (a:Nat),t.get a=some o→t.set a (fun zz=>o)=t
 |.nil,_,_=>rfl
 |.node v l r,a,e=>by
  rw [BT.get_node] at e
  rw [BT.set_node]
  by_cases h:a=0
  ·simp only [if_pos h] at e ⊢; cases e; rfl
  ·simp only [if_neg h] at e ⊢
   by_cases q:a%2=1
   ·simp only [if_pos q] at e ⊢; rw [BT.set_same o l _ e]
   ·simp only [if_neg q] at e ⊢; rw [BT.set_same o r _ e]
theorem BT.ins_set (f:Obj→Obj)(o:Obj):∀(t:BT) (a:Nat),((t.ins a o).get a).isSome=true→(t.ins a o).set a f=t.ins a (f o)
 |.nil,a,e=>by
  have e1:(BT.nil.ins a o)=.node o .nil .nil:=rfl
  have e2:(BT.nil.ins a (f o))=.node (f o) .nil .nil:=rfl
  rw [e1,BT.get_node] at e
  rw [e1,e2,BT.set_node]
  by_cases h:a=0
  ·rw [if_pos h]
  ·exfalso; revert e; rw [if_neg h]; by_cases q:a%2=1 <;> simp [q,BT.get]
 |.node v l r,a,e=>by
  rw [BT.ins_node] at e ⊢
  rw [BT.ins_node]
  by_cases h:a=0
  ·simp only [if_pos h] at e ⊢; rw [BT.set_node,if_pos h]
  ·simp only [if_neg h] at e ⊢
   by_cases q:a%2=1
   ·simp only [if_pos q] at e ⊢
    rw [BT.get_node,if_neg h,if_pos q] at e
    rw [BT.set_node,if_neg h,if_pos q,BT.ins_set f o l _ e]
   ·simp only [if_neg q] at e ⊢
    rw [BT.get_node,if_neg h,if_neg q] at e
    rw [BT.set_node,if_neg h,if_neg q,BT.ins_set f o r _ e]
theorem BT.ins_some (o o':Obj):∀(t:BT) (a:Nat),((t.ins a o).get a).isSome=((t.ins a o').get a).isSome
 |.nil,a=>by
  have e1:∀o,(BT.nil.ins a o)=.node o .nil .nil:=fun zz=>rfl
  rw [e1,e1,BT.get_node,BT.get_node]
  by_cases h:a=0
  ·simp [h]
  ·rw [if_neg h,if_neg h]
 |.node v l r,a=>by
  rw [BT.ins_node,BT.ins_node]
  by_cases h:a=0
  ·simp only [if_pos h]; rw [BT.get_node,BT.get_node,if_pos h,if_pos h]; rfl
  ·simp only [if_neg h]
   by_cases q:a%2=1
   ·simp only [if_pos q]; rw [BT.get_node,BT.get_node,if_neg h,if_neg h,if_pos q,if_pos q]; exact BT.ins_some o o' l _
   ·simp only [if_neg q]; rw [BT.get_node,BT.get_node,if_neg h,if_neg h,if_neg q,if_neg q]; exact BT.ins_some o o' r _
theorem BT.set_get_ne {t:BT}{a i:Nat}{f:Obj→Obj}(h:i≠a):(t.set a f).get i=t.get i:=by rw [BT.get_set,if_neg h]
theorem BT.ins_get_ne {t:BT}{a i:Nat}{o:Obj}(e:((t.ins a o).get a).isSome=true)(h:i≠a):(t.ins a o).get i=t.get i:=by rw [BT.get_ins _ _ _ e,if_neg h]
theorem BT.ins_get {t:BT}{a:Nat}{o:Obj}(e:((t.ins a o).get a).isSome=true):(t.ins a o).get a=some o:=by rw [BT.get_ins _ _ _ e,if_pos rfl]
noncomputable abbrev Pr:=Int × PySem.Str
noncomputable def aN:List Pr→Nat→List DictEntry
 |[],_=>[]
 |(j,x)::r,t=>⟨j,.int j t,.str x (t+1)⟩::aN r (t+3)
theorem uM (a:Pr)(r:List Pr)(t:Nat):aN (a::r) t=⟨a.1,.int a.1 t,.str a.2 (t+1)⟩::aN r (t+3):=rfl
theorem hU:∀(l:List Pr) (t:Nat),(aN l t).length=l.length
 |[],_=>rfl
 |(_,_)::r,t=>by rw [uM,List.length_cons,List.length_cons,hU r]
theorem GL:∀(l:List Pr) (t:Nat) (e:DictEntry),e∈aN l t→e.hash∈l.map (·.1)
 |[],_,_,h=>nomatch h
 |(j,x)::r,t,e,h=>by
  rw [uM] at h
  rcases List.mem_cons.mp h with rfl |h
  ·exact List.mem_cons_self ..
  ·exact List.mem_cons_of_mem _ (GL r _ e h)
theorem GM:∀(l:List Pr) (t:Nat) (e:DictEntry),e∈aN l t→∃u,e.key=.int e.hash u
 |[],_,_,h=>nomatch h
 |(j,x)::r,t,e,h=>by
  rw [uM] at h
  rcases List.mem_cons.mp h with rfl |h
  ·exact ⟨_,rfl⟩
  ·exact GM r _ e h
section
variable {p:Program}{w:World}{n₀:Nat}{ann:Option Value}{code:Code}{below:List (Code × Pos)}
noncomputable def yS (p:Program)(w:World)(n₀:Nat)(ann:Option Value)(code:Code)(below:List (Code × Pos))(x:Sem Value × Sem Value)(a:Pr):Prop:=
 (0≤a.1∧a.1<2000000)∧∀T n k,GE (cQ p w n₀ ann) p w n₀ ann code below x.1 T n k (.int a.1 k) T n (k+1) 1∧GE (cQ p w n₀ ann) p w n₀ ann code below x.2 T n k (.str a.2 k) T n (k+1) 2
inductive dN (p:Program)(w:World)(n₀:Nat)(ann:Option Value)(code:Code)(below:List (Code × Pos)):List (Sem Value × Sem Value)→List Pr→Prop
 |nil:dN p w n₀ ann code below [] []
 |cons {x a xs as}:yS p w n₀ ann code below x a→dN p w n₀ ann code below xs as→dN p w n₀ ann code below (x::xs) (a::as)
theorem dN.length {xs as}(h:dN p w n₀ ann code below xs as):xs.length=as.length:=by
 induction h with
 |nil=>rfl
 |cons _ _ ih=>rw [List.length_cons,List.length_cons,ih]
theorem yT {T:BT}{d:Addr}{es:List DictEntry}{ep:Nat}(g:T.get d=some (aI es ep))(e:DictEntry):T.set d (Obj.mapDictKeys (·.push e))=T.set d fun zz=>aI (es++[e]) (ep+1):=by
 rw [BT.set_at _ _ _ _ g]
 have:Obj.mapDictKeys (·.push e) (aI es ep)=aI (es++[e]) (ep+1):=by simp only [Obj.mapDictKeys,List.push_toArray]
 rw [this]
theorem aAb {x:Sem Value × Sem Value}{a:Pr}(hx:yS p w n₀ ann code below x a){T:BT}{d n k:Nat}{es:List DictEntry}{ep:Nat}(m:dM n₀ ann d=true)(g:T.get d=some (aI es ep))(l:d<n)(hz:es.length<100000)(hn:∀e∈es,e.hash≠a.1):
  GE (cQ p w n₀ ann) p w n₀ ann code below (do let kv ←x.1; let vv ←holding [kv] x.2; holding [kv,vv] (dictSet d kv vv); pure (ForInStep.yield PUnit.unit)) T n k (ForInStep.yield PUnit.unit) (T.set d fun zz=>aI (es++aN [a] k) (ep+1)) n (k+3) 13:=by
 refine GE.bind (B1:=1) (B2:=12) (hx.2 T n k).1 ?_
 refine GE.bind (B1:=2) (B2:=10) (GE.holding (hx.2 T n (k+1)).2) ?_
 refine GE.bind (a:=()) (B1:=10) (B2:=0) (GE.holding ?_) GE.pure
 unfold dictSet
 refine GE.holding ?_
 refine GE.bind (B1:=5) (B2:=5) (GE.pyHash hx.1.1 hx.1.2) ?_
 have:=GE.dictSetHashed (call:=cQ p w n₀ ann) (p:=p) (w:=w) (ann:=ann) (code:=code) (below:=below) (T:=T) (d:=d) (es:=es) (ep:=ep) (n:=n) (k:=k+1+1+1) (j:=a.1) (t:=k) (v:=.str a.2 (k+1)) m g l hz hn
 rw [yT g] at this
 exact this
theorem aAc {d:Addr}(m:dM n₀ ann d=true){f:Sem Value × Sem Value→PUnit→Sem (ForInStep PUnit)}(hf:∀x u,f x u=(do let kv ←x.1; let vv ←holding [kv] x.2; holding [kv,vv] (dictSet d kv vv); pure (ForInStep.yield PUnit.unit))):∀{xs:List (Sem Value × Sem Value)} {as:List Pr},dN p w n₀ ann code below xs as→∀{T:BT} {n k:Nat} {es:List DictEntry} {ep:Nat},T.get d=some (aI es ep)→d<n→es.length+as.length<100000 →
  (∀e∈es,e.hash∉as.map (·.1))→(as.map (·.1)).Nodup→GE (cQ p w n₀ ann) p w n₀ ann code below (forIn xs ⟨⟩ f) T n k ⟨⟩ (T.set d fun zz=>aI (es++aN as k) (ep+as.length)) n (k+3*as.length) (13*as.length):=by
 intro xs as h
 induction h with
 |nil=>
  intro T n k es ep g l hz hn nd
  have:T.set d (fun zz=>aI (es++aN [] k) (ep+0))=T:=by
   rw [show aN [] k=[] from rfl,List.append_nil,Nat.add_zero]; exact BT.set_same _ _ _ g
  rw [List.length_nil,this]
  exact GE.forNil
 | @cons x a xs as hx _ ih=>
  intro T n k es ep g l hz hn nd
  rw [List.length_cons] at hz ⊢
  rw [List.map_cons,List.nodup_cons] at nd
  have n1:∀e∈es,e.hash≠a.1:=fun e he q=>hn e he (by rw [List.map_cons,q]; exact List.mem_cons_self ..)
  have st:=aAb hx (T:=T) (k:=k) m g l (by exact Nat.lt_of_le_of_lt (Nat.le_add_right _ _) hz) n1
  have g':(T.set d fun zz=>aI (es++aN [a] k) (ep+1)).get d=some (aI (es++aN [a] k) (ep+1)):=by rw [BT.get_set,if_pos rfl,g]; rfl
  have rest:=ih (T:=T.set d fun zz=>aI (es++aN [a] k) (ep+1)) (n:=n) (k:=k+3) g' l (by rw [List.length_append,hU,List.length_singleton]; omega)
   (fun e he=>by
    rcases List.mem_append.mp he with he |he
    ·exact fun q=>hn e he (by rw [List.map_cons]; exact List.mem_cons_of_mem _ q)
    ·have:=GL _ _ _ he
     rw [List.map_cons,List.map_nil,List.mem_singleton] at this
     rw [this]; exact nd.1) nd.2
  have e1:(T.set d fun zz=>aI (es++aN [a] k) (ep+1)).set d (fun zz=>aI (es++aN [a] k++aN as (k+3)) (ep+1+as.length))=T.set d fun zz=>aI (es++aN (a::as) k) (ep+(as.length+1)):=by
   rw [BT.set_set,List.append_assoc,show aN [a] k++aN as (k+3)=aN (a::as) k from rfl,show ep+1+as.length=ep+(as.length+1) by exact Nat.add_right_comm _ _ _]
  rw [e1] at rest
  refine GE.mono (B:=13+13*as.length) (GE.forCons (b1:=⟨⟩) (B1:=13) (T1:=T.set d fun zz=>aI (es++aN [a] k) (ep+1)) (n1:=n) (k1:=k+3) ?_ ?_) (by exact Nat.le_of_eq (Nat.add_comm _ _))
  ·rw [hf]
   exact st
  ·rw [show k+3*(as.length+1)=k+3+3*as.length by omega]
   exact rest
end
section
variable {p:Program}{w:World}{n₀:Nat}{ann:Option Value}{code:Code}{below:List (Code × Pos)}
theorem GN {xs:List (Sem Value × Sem Value)}{as:List Pr}(h:dN p w n₀ ann code below xs as){T:BT}{n k:Nat}(m:dM n₀ ann n=true)(g:((T.ins n default).get n).isSome=true)(hl:15<as.length)(hz:as.length<100000)(nd:(as.map (·.1)).Nodup):
  GE (cQ p w n₀ ann) p w n₀ ann code below (subDict xs) T n k n (T.ins n (aI (aN as k) as.length)) (n+1) (k+3*as.length) (2+13*as.length):=by
 have g1:∀o,((T.ins n o).get n).isSome=true:=fun o=>by rw [BT.ins_some o default]; exact g
 unfold subDict
 refine GE.bind (B1:=1) (B2:=1+13*as.length) (T1:=T.ins n (aI [] 0)) (GE.alloc (g1 _)) ?_ |>.mono (by exact Nat.le_of_eq (Nat.add_assoc _ _ _).symm)
 refine GE.bind (a:=()) (B1:=1+13*as.length) (B2:=0) (GE.holding ?_) GE.pure
 rw [if_neg (by rw [h.length]; exact Nat.not_le.mpr hl)]
 refine GE.bind (B1:=1) (B2:=13*as.length) GE.rule ?_
 have:=aAc (p:=p) (w:=w) (n₀:=n₀) (ann:=ann) (code:=code) (below:=below) (d:=n) m (f:=fun x zz=>(match x with |(k,v)=>do let kv ←k; let vv ←holding [kv] v; holding [kv,vv] (dictSet n kv vv); pure (ForInStep.yield PUnit.unit))) (fun zz zz=>rfl) h
  (T:=T.ins n (aI [] 0)) (n:=n+1) (k:=k) (es:=[]) (ep:=0) (BT.ins_get (g1 _)) (Nat.lt_succ_self _) (by simpa using hz) (fun zz h=>nomatch h) nd
 rw [BT.ins_set _ _ _ _ (g1 _),List.nil_append,Nat.zero_add] at this
 exact GE.mono (B:=13*as.length+0) (GE.bind (a:=PUnit.unit) this GE.pure) (by exact Nat.le_refl _)
noncomputable def rW (l:List DictEntry):Prop:=∀e∈l,∃u,e.key=.int e.hash u
theorem aAd {T:BT}{a n k:Nat}{es:List DictEntry}{ep:Nat}(g:T.get a=some (aI es ep))(l:a<n):GE (cQ p w n₀ ann) p w n₀ ann code below (isInstance (.ref a) (.type "dict")) T n k true T n k 1:=by
 unfold isInstance typeOf
 refine GE.bind (B1:=1) (B2:=0) (a:=.type "dict") (GE.bind (B1:=1) (B2:=0) (GE.loadPart g rfl l) GE.pure) ?_
 exact GE.of (oS _) fun q=>ZZ
theorem aAe {T:BT}{a n k:Nat}{es:List DictEntry}{ep:Nat}(g:T.get a=some (aI es ep))(l:a<n):GE (cQ p w n₀ ann) p w n₀ ann code below (specialOf (.ref a) "__iter__") T n k (some (.builtin "dict.__iter__")) T n k 1:=by
 unfold specialOf typeOf
 refine GE.bind (B1:=1) (B2:=0) (a:=.type "dict") (GE.bind (B1:=1) (B2:=0) (GE.loadPart g rfl l) GE.pure) ?_
 exact GE.of (oS _) fun q=>aAa
theorem aAf {d a:Addr}(m:dM n₀ ann d=true)(ne:d≠a){ss:List DictEntry}{eps:Nat}(ik:rW ss){f:Nat→PUnit→Sem (ForInStep PUnit)}{n k:Nat}(l:d<n)(la:a<n)
  (hf:∀(i:Nat) (x:DictEntry) (u:Tok) (T:BT) (es:List DictEntry) (ep:Nat),ss[i]?=some x→x.key=.int x.hash u→T.get d=some (aI es ep)→T.get a=some (aI ss eps)→es.length<100000→(∀e∈es,e.hash≠x.hash) →
   GE (cQ p w n₀ ann) p w n₀ ann code below (f i PUnit.unit) T n k (ForInStep.yield PUnit.unit) (T.set d fun zz=>aI (es++[x]) (ep+1)) n k 6) :
  ∀(rest done:List DictEntry),ss=done++rest→∀{T:BT} {es:List DictEntry} {ep:Nat},T.get d=some (aI es ep)→T.get a=some (aI ss eps)→es.length+rest.length<100000 →
   (∀e∈es,e.hash∉rest.map (·.hash))→(rest.map (·.hash)).Nodup→GE (cQ p w n₀ ann) p w n₀ ann code below (forIn (List.range' done.length rest.length) ⟨⟩ f) T n k ⟨⟩ (T.set d fun zz=>aI (es++rest) (ep+rest.length)) n k (6*rest.length):=by
 intro rest
 induction rest with
 |nil=>
  intro done hs T es ep g ga hz hn nd
  have:T.set d (fun zz=>aI (es++[]) (ep+0))=T:=by
   rw [List.append_nil,Nat.add_zero]; exact BT.set_same _ _ _ g
  rw [List.length_nil,this]
  exact GE.forNil
 |cons x rest ih=>
  intro done hs T es ep g ga hz hn nd
  rw [List.length_cons] at hz ⊢
  rw [List.map_cons,List.nodup_cons] at nd
  obtain ⟨u,hu⟩:=ik x (by rw [hs]; exact List.mem_append_right _ (List.mem_cons_self ..))
  have n1:∀e∈es,e.hash≠x.hash:=fun e he q=>hn e he (by rw [List.map_cons,q]; exact List.mem_cons_self ..)
  have g':(T.set d fun zz=>aI (es++[x]) (ep+1)).get d=some (aI (es++[x]) (ep+1)):=by rw [BT.get_set,if_pos rfl,g]; rfl
  have ga':(T.set d fun zz=>aI (es++[x]) (ep+1)).get a=some (aI ss eps):=by rw [BT.set_get_ne (Ne.symm ne)]; exact ga
  have next:=ih (done++[x]) (by rw [hs,List.append_assoc]; rfl) (T:=T.set d fun zz=>aI (es++[x]) (ep+1)) g' ga' (by rw [List.length_append,List.length_singleton]; omega)
   (fun e he=>by
    rcases List.mem_append.mp he with he |he
    ·exact fun q=>hn e he (by rw [List.map_cons]; exact List.mem_cons_of_mem _ q)
    ·rw [List.mem_singleton] at he
     rw [he]; exact nd.1) nd.2
  have e1:(T.set d fun zz=>aI (es++[x]) (ep+1)).set d (fun zz=>aI (es++[x]++rest) (ep+1+rest.length))=T.set d fun zz=>aI (es++x::rest) (ep+(rest.length+1)):=by
   rw [BT.set_set,List.append_assoc,List.singleton_append,show ep+1+rest.length=ep+(rest.length+1) by exact Nat.add_right_comm _ _ _]
  rw [e1,List.length_append,List.length_singleton] at next
  rw [List.range'_succ]
  have ei:ss[done.length]?=some x:=by rw [hs,List.getElem?_append_right (Nat.le_refl _),Nat.sub_self]; rfl
  exact GE.mono (B:=6+6*rest.length) (GE.forCons (b1:=PUnit.unit) (B1:=6) (T1:=T.set d fun zz=>aI (es++[x]) (ep+1)) (n1:=n) (k1:=k) (hf _ x u T es ep ei hu g ga (by exact Nat.lt_of_le_of_lt (Nat.le_add_right _ _) hz) n1) next) (by exact Nat.le_of_eq (Nat.add_comm _ _))
theorem aAg {d a:Addr}(m:dM n₀ ann d=true)(ne:d≠a)(ha:(a==sysModules)=false){ss:List DictEntry}{eps:Nat}(ik:rW ss){T:BT}{n k:Nat}{es:List DictEntry}{ep:Nat}
  (g:T.get d=some (aI es ep)) (ga:T.get a=some (aI ss eps)) (l:d<n) (la:a<n) (hz:es.length+ss.length<100000) (he:es≠[])
  (hn:∀e∈es,e.hash∉ss.map (·.hash)) (nd:(ss.map (·.hash)).Nodup):GE (cQ p w n₀ ann) p w n₀ ann code below (mergeMapping d (.ref a) false) T n k () (T.set d fun zz=>aI (es++ss) (ep+ss.length)) n k (6+6*ss.length):=by
 unfold mergeMapping
 refine GE.bind (B1:=1) (B2:=5+6*ss.length) (aAd ga la) ?_ |>.mono (by exact Nat.le_of_eq (Nat.add_assoc _ _ _).symm)
 dsimp only
 rw [if_pos rfl]
 refine GE.bind (B1:=1) (B2:=4+6*ss.length) (aAe ga la) ?_ |>.mono (by exact Nat.le_of_eq (Nat.add_assoc _ _ _).symm)
 have e1:((some (Value.builtin "dict.__iter__"))==some (.builtin "dict.__iter__"))=true:=beq_self_eq_true _
 rw [e1]
 refine GE.bind (B1:=0) (B2:=4+6*ss.length) GE.pure ?_ |>.mono (by exact Nat.le_of_eq (Nat.add_assoc _ _ _).symm)
 dsimp only
 rw [if_neg (by rw [ha]; exact Bool.false_ne_true)]
 refine GE.bind (B1:=1) (B2:=3+6*ss.length) (GE.dictEntries g l) ?_ |>.mono (by exact Nat.le_of_eq (Nat.add_assoc _ _ _).symm)
 have e0:es.toArray.isEmpty=false:=by cases es with
  |nil=>exact absurd rfl he
  |cons _ _=>rfl
 rw [if_neg (by rw [e0]; exact Bool.false_ne_true)]
 refine GE.bind (B1:=1) (B2:=2+6*ss.length) (GE.dictEntries ga la) ?_ |>.mono (by exact Nat.le_of_eq (Nat.add_assoc _ _ _).symm)
 refine GE.bind (B1:=1) (B2:=6*ss.length) (GE.dictEpoch ga la) ?_ |>.mono (by exact Nat.add_le_add_right (by decide) _)
 refine GE.bind (a:=PUnit.unit) (B1:=6*ss.length) (B2:=0) ?_ GE.pure
 rw [List.size_toArray,List.range_eq_range']
 refine aAf (p:=p) (w:=w) (n₀:=n₀) (ann:=ann) (code:=code) (below:=below) (d:=d) (a:=a) m ne (ss:=ss) (eps:=eps) ik (n:=n) (k:=k) l la ?_ ss [] rfl g ga hz hn nd
 ·intro i x u T es ep hi hu g ga hz hn
  refine GE.bind (B1:=1) (B2:=5) (GE.dictEntries ga la) ?_
  have ei:ss.toArray[i]?=some x:=by rw [List.getElem?_toArray,hi]
  rw [ei]
  have hx:x=⟨x.hash,.int x.hash u,x.val⟩:=by cases x; simp only at hu; subst hu; rfl
  have st:=GE.dictPut (call:=cQ p w n₀ ann) (p:=p) (w:=w) (ann:=ann) (code:=code) (below:=below) (T:=T) (d:=d) (es:=es) (ep:=ep) (n:=n) (k:=k) (j:=x.hash) (t:=u) (v:=x.val) m g l hz hn
  rw [yT g,←hx,←hu] at st
  refine GE.bind (a:=()) (B1:=4) (B2:=1) (GE.holding (by rw [if_neg Bool.false_ne_true]; exact st)) ?_
  refine GE.bind (B1:=1) (B2:=0) (GE.dictEpoch (by rw [BT.set_get_ne (Ne.symm ne)]; exact ga) la) ?_
  rw [if_neg (by simp)]
  exact GE.pure
end
noncomputable def dO:List Pr→Nat→List DictEntry
 |[],_=>[]
 |(j,x)::r,t=>⟨j,.int j t,.str x (t+1)⟩::dO r (t+2)
theorem yU (a:Pr)(r:List Pr)(t:Nat):dO (a::r) t=⟨a.1,.int a.1 t,.str a.2 (t+1)⟩::dO r (t+2):=rfl
theorem uN:∀(l:List Pr) (t:Nat),(dO l t).length=l.length
 |[],_=>rfl
 |(_,_)::r,t=>by rw [yU,List.length_cons,List.length_cons,uN r]
theorem uO:∀(l:List Pr) (t:Nat),(dO l t).map (·.hash)=l.map (·.1)
 |[],_=>rfl
 |(_,_)::r,t=>by rw [yU,List.map_cons,List.map_cons,uO r]
theorem oU:∀(l:List Pr) (t:Nat),(aN l t).map (·.hash)=l.map (·.1)
 |[],_=>rfl
 |(_,_)::r,t=>by rw [uM,List.map_cons,List.map_cons,oU r]
theorem yV:∀(l:List Pr) (t:Nat),rW (dO l t)
 |[],_,_,h=>nomatch h
 |(j,x)::r,t,e,h=>by
  rw [yU] at h
  rcases List.mem_cons.mp h with rfl |h
  ·exact ⟨_,rfl⟩
  ·exact yV r _ e h
section
variable {p:Program}{w:World}{n₀:Nat}{ann:Option Value}{code:Code}{below:List (Code × Pos)}
theorem aAh {xs:List (Sem Value × Sem Value)}{as:List Pr}(h:dN p w n₀ ann code below xs as):∀{T:BT} {n k:Nat},GE (cQ p w n₀ ann) p w n₀ ann code below (evalPairs xs) T n k ((dO as k).map fun e=>(e.key,e.val)) T n (k+2*as.length) (3*as.length):=by
 induction h with
 |nil=>intro T n k; exact GE.pure
 | @cons x a xs as hx _ ih=>
  intro T n k
  obtain ⟨x1,x2⟩:=x
  obtain ⟨j,v⟩:=a
  rw [List.length_cons]
  unfold evalPairs
  refine GE.mono (B:=1+(2+(3*as.length+0))) ?_ (by omega)
  refine GE.bind (hx.2 T n k).1 ?_
  refine GE.bind (GE.holding (hx.2 T n (k+1)).2) ?_
  have:=ih (T:=T) (n:=n) (k:=k+1+1)
  refine GE.bind (GE.holding this) ?_
  rw [show k+2*(as.length+1)=k+1+1+2*as.length by omega]
  exact GE.pure
theorem aAi {d:Addr}(m:dM n₀ ann d=true):∀(ss:List DictEntry),rW ss→(∀e∈ss,0≤e.hash∧e.hash<2000000)→∀{T:BT} {n k:Nat} {es:List DictEntry} {ep:Nat},T.get d=some (aI es ep)→d<n→es.length+ss.length<100000 →
  (∀e∈es,e.hash∉ss.map (·.hash))→(ss.map (·.hash)).Nodup →
  GE (cQ p w n₀ ann) p w n₀ ann code below (forIn (ss.map fun e=>(e.key,e.val)) PUnit.unit fun x (_:PUnit)=>(match x with |(k,v)=>do dictSet d k v; pure (ForInStep.yield PUnit.unit))) T n k PUnit.unit (T.set d fun zz=>aI (es++ss) (ep+ss.length)) n (k+ss.length) (10*ss.length):=by
 intro ss
 induction ss with
 |nil=>
  intro ik hr T n k es ep g l hz hn nd
  have:T.set d (fun zz=>aI (es++[]) (ep+0))=T:=by
   rw [List.append_nil,Nat.add_zero]; exact BT.set_same _ _ _ g
  rw [List.length_nil,this]
  exact GE.forNil
 |cons x rest ih=>
  intro ik hr T n k es ep g l hz hn nd
  rw [List.length_cons] at hz ⊢
  rw [List.map_cons,List.nodup_cons] at nd
  obtain ⟨u,hu⟩:=ik x (List.mem_cons_self ..)
  have n1:∀e∈es,e.hash≠x.hash:=fun e he q=>hn e he (by rw [List.map_cons,q]; exact List.mem_cons_self ..)
  have hx:x=⟨x.hash,.int x.hash u,x.val⟩:=by cases x; simp only at hu; subst hu; rfl
  have st:=GE.dictSetHashed (call:=cQ p w n₀ ann) (p:=p) (w:=w) (ann:=ann) (code:=code) (below:=below) (T:=T) (d:=d) (es:=es) (ep:=ep) (n:=n) (k:=k+1) (j:=x.hash) (t:=u) (v:=x.val) m g l (by exact Nat.lt_of_le_of_lt (Nat.le_add_right _ _) hz) n1
  rw [yT g,←hx] at st
  have g':(T.set d fun zz=>aI (es++[x]) (ep+1)).get d=some (aI (es++[x]) (ep+1)):=by rw [BT.get_set,if_pos rfl,g]; rfl
  have next:=ih (fun e he=>ik e (List.mem_cons_of_mem _ he)) (fun e he=>hr e (List.mem_cons_of_mem _ he)) (T:=T.set d fun zz=>aI (es++[x]) (ep+1)) (n:=n) (k:=k+1) g' l (by rw [List.length_append,List.length_singleton]; omega)
   (fun e he=>by
    rcases List.mem_append.mp he with he |he
    ·exact fun q=>hn e he (by rw [List.map_cons]; exact List.mem_cons_of_mem _ q)
    ·rw [List.mem_singleton] at he
     rw [he]; exact nd.1) nd.2
  have e1:(T.set d fun zz=>aI (es++[x]) (ep+1)).set d (fun zz=>aI (es++[x]++rest) (ep+1+rest.length))=T.set d fun zz=>aI (es++x::rest) (ep+(rest.length+1)):=by
   rw [BT.set_set,List.append_assoc,List.singleton_append,show ep+1+rest.length=ep+(rest.length+1) by exact Nat.add_right_comm _ _ _]
  rw [e1] at next
  rw [List.map_cons]
  rw [show k+(rest.length+1)=k+1+rest.length by omega]
  refine GE.mono (B:=10+10*rest.length) (GE.forCons (b1:=PUnit.unit) (B1:=10) (T1:=T.set d fun zz=>aI (es++[x]) (ep+1)) (n1:=n) (k1:=k+1) ?_ next) (by exact Nat.le_of_eq (Nat.add_comm _ _))
  refine GE.bind (a:=()) (B1:=10) (B2:=0) ?_ GE.pure
  show GE _ _ _ _ _ _ _ (dictSet d x.key x.val) _ _ _ _ _ _ _ _
  unfold dictSet
  refine GE.holding ?_
  rw [hu]
  exact GE.bind (B1:=5) (B2:=5) (GE.pyHash (hr x (List.mem_cons_self ..)).1 (hr x (List.mem_cons_self ..)).2) st
theorem aAj {xs:List (Sem Value × Sem Value)}{as:List Pr}(h:dN p w n₀ ann code below xs as)(hr:∀a∈as,0≤a.1∧a.1<2000000){T:BT}{n k:Nat}(m:dM n₀ ann n=true)(g:((T.ins n default).get n).isSome=true)(hl:as.length≤15)(nd:(as.map (·.1)).Nodup):
  GE (cQ p w n₀ ann) p w n₀ ann code below (subDict xs) T n k n (T.ins n (aI (dO as k) as.length)) (n+1) (k+3*as.length) (1+13*as.length):=by
 have g1:∀o,((T.ins n o).get n).isSome=true:=fun o=>by rw [BT.ins_some o default]; exact g
 unfold subDict
 refine GE.bind (B1:=1) (B2:=13*as.length) (T1:=T.ins n (aI [] 0)) (GE.alloc (g1 _)) ?_ |>.mono (by exact Nat.le_refl _)
 refine GE.bind (a:=()) (B1:=13*as.length) (B2:=0) (GE.holding ?_) GE.pure
 rw [if_pos (by rw [h.length]; exact hl)]
 refine GE.mono (B:=3*as.length+(10*as.length+0)) ?_ (by omega)
 refine GE.bind (aAh h) ?_
 refine GE.holding ?_
 have:=aAi (p:=p) (w:=w) (n₀:=n₀) (ann:=ann) (code:=code) (below:=below) (d:=n) m (dO as k) (yV _ _)
  (fun e he=>by
   have:e.hash∈(dO as k).map (·.hash):=List.mem_map_of_mem he
   rw [uO] at this
   obtain ⟨a,ha,q⟩:=List.mem_map.mp this
   rw [←q]; exact hr a ha)
  (T:=T.ins n (aI [] 0)) (n:=n+1) (k:=k+2*as.length) (es:=[]) (ep:=0) (BT.ins_get (g1 _)) (Nat.lt_succ_self _) (by rw [uN]; simp; exact Nat.lt_of_le_of_lt hl (by decide)) (fun zz h=>nomatch h) (by rw [uO]; exact nd)
 rw [BT.ins_set _ _ _ _ (g1 _),List.nil_append,Nat.zero_add,uN,show k+2*as.length+as.length=k+3*as.length by omega] at this
 exact GE.bind (a:=PUnit.unit) this GE.pure
end
noncomputable def eF (d:Nat):List (List Pr)→BT→Nat→Nat→List DictEntry→BT
 |[],T,_,_,_=>T
 |c::r,T,n,k,es=>eF d r ((T.ins n (aI (aN c k) c.length)).set d fun zz=>aI (es++aN c k) (es.length+c.length)) (n+1) (k+3*c.length) (es++aN c k)
noncomputable def eP:List (List Pr)→Nat→List DictEntry→List DictEntry
 |[],_,es=>es
 |c::r,k,es=>eP r (k+3*c.length) (es++aN c k)
noncomputable def eG:List (List Pr)→Nat
 |[]=>0
 |c::r=>c.length+eG r
theorem yW (c:List Pr)(r:List (List Pr)):eG (c::r)=c.length+eG r:=rfl
theorem uP (c:List Pr)(r:List (List Pr))(k:Nat)(es:List DictEntry):eP (c::r) k es=eP r (k+3*c.length) (es++aN c k):=rfl
theorem GO (d:Nat)(c:List Pr)(r:List (List Pr))(T:BT)(n k:Nat)(es:List DictEntry):eF d (c::r) T n k es=eF d r ((T.ins n (aI (aN c k) c.length)).set d fun zz=>aI (es++aN c k) (es.length+c.length)) (n+1) (k+3*c.length) (es++aN c k):=rfl
section
variable {p:Program}{w:World}{n₀:Nat}{ann:Option Value}{code:Code}{below:List (Code × Pos)}
noncomputable abbrev It:=Option (Sem Value) × Sem Value
noncomputable def items (xs:List (Sem Value × Sem Value)):List It:=xs.map fun x=>(some x.1,x.2)
noncomputable def iQ (run:List (Sem Value × Sem Value))(main:Option Addr):Sem (Option Addr):=do
  if run.isEmpty then return main
  match main with
  |none=>return some (←subDict run)
  |some d=>
   let sub ←holding [.ref d] (subDict run)
   (holding [.ref d,.ref sub] (mergeMapping d (.ref sub) false)).onRaise fun x=>do let _ ←holding [.ref d,x] (runValue (.builtin "proto.let_go" {}))
   return some d
theorem aAk (xs:List (Sem Value × Sem Value)):∃(f:It→Option Addr × List (Sem Value × Sem Value)→Sem (ForInStep (Option Addr × List (Sem Value × Sem Value)))),
  (dictDisplay (items xs)=(forIn (items xs) (none,[]) f)>>=fun r=>do
   match ←iQ r.2 r.1 with
   |some d=>pure (.ref d)
   |none=>newDict) ∧
  (∀k v m run,f (some k,v) (m,run)=if ((run++[(k,v)]).length==17)=true then iQ (run++[(k,v)]) m>>=fun m'=>pure (ForInStep.yield (m',[])) else pure (ForInStep.yield (m,run++[(k,v)]))):=by
 unfold dictDisplay
 dsimp only
 exact ⟨_,rfl,fun k v m run=>rfl⟩
theorem GP {f:It→Option Addr × List (Sem Value × Sem Value)→Sem (ForInStep (Option Addr × List (Sem Value × Sem Value)))}
  (hf:∀k v m run,f (some k,v) (m,run)=if ((run++[(k,v)]).length==17)=true then iQ (run++[(k,v)]) m>>=fun m'=>pure (ForInStep.yield (m',[])) else pure (ForInStep.yield (m,run++[(k,v)])))
  {m:Option Addr}:∀(xs:List (Sem Value × Sem Value)) (run:List (Sem Value × Sem Value)) {rest:List It},run.length+xs.length≤16→∀{T n k b T' n' k' B},GE (cQ p w n₀ ann) p w n₀ ann code below (forIn rest (m,run++xs) f) T n k b T' n' k' B→GE (cQ p w n₀ ann) p w n₀ ann code below (forIn (items xs++rest) (m,run) f) T n k b T' n' k' B:=by
 intro xs
 induction xs with
 |nil=>intro run rest hl T n k b T' n' k' B h; rw [List.append_nil] at h; exact h
 |cons x xs ih=>
  intro run rest hl T n k b T' n' k' B h
  obtain ⟨u,v⟩:=x
  rw [List.length_cons] at hl
  have:=ih (run++[(u,v)]) (rest:=rest) (by rw [List.length_append,List.length_singleton]; omega) (T:=T) (n:=n) (k:=k) (b:=b) (T':=T') (n':=n') (k':=k') (B:=B) (by rw [List.append_assoc,List.singleton_append]; exact h)
  show GE _ _ _ _ _ _ _ (forIn ((some u,v)::(items xs++rest)) (m,run) f) _ _ _ _ _ _ _ _
  refine GE.mono (B:=0+B) (GE.forCons (b1:=(m,run++[(u,v)])) (B1:=0) ?_ this) (by exact Nat.le_of_eq (Nat.add_comm _ _))
  rw [hf,if_neg (by rw [List.length_append,List.length_singleton]; simp; omega)]
  exact GE.pure
theorem dN.split {as bs:List Pr}:∀{xs:List (Sem Value × Sem Value)},dN p w n₀ ann code below xs (as++bs)→∃ys zs,xs=ys++zs∧dN p w n₀ ann code below ys as∧dN p w n₀ ann code below zs bs:=by
 induction as with
 |nil=>intro xs h; exact ⟨[],xs,rfl,.nil,h⟩
 |cons a as ih=>
  intro xs h
  cases h with
  |cons hx h=>
   obtain ⟨ys,zs,rfl,h1,h2⟩:=ih h
   exact ⟨_::ys,zs,rfl,.cons hx h1,h2⟩
theorem GQ {f:It→Option Addr × List (Sem Value × Sem Value)→Sem (ForInStep (Option Addr × List (Sem Value × Sem Value)))}
  (hf:∀k v m run,f (some k,v) (m,run)=if ((run++[(k,v)]).length==17)=true then iQ (run++[(k,v)]) m>>=fun m'=>pure (ForInStep.yield (m',[])) else pure (ForInStep.yield (m,run++[(k,v)])))
  {m m':Option Addr} {xs:List (Sem Value × Sem Value)} (hl:xs.length=17) {rest:List It} {T n k T1 n1 k1 B1 b T' n' k' B} (h:GE (cQ p w n₀ ann) p w n₀ ann code below (iQ xs m) T n k m' T1 n1 k1 B1) (g:GE (cQ p w n₀ ann) p w n₀ ann code below (forIn rest (m',[]) f) T1 n1 k1 b T' n' k' B) :
  GE (cQ p w n₀ ann) p w n₀ ann code below (forIn (items xs++rest) (m,[]) f) T n k b T' n' k' (B1+B):=by
 have e:xs=xs.take 16++xs.drop 16:=(List.take_append_drop ..).symm
 obtain ⟨z,hz⟩:∃z,xs.drop 16=[z]:=List.length_eq_one_iff.mp (by rw [List.length_drop,hl])
 obtain ⟨u,v⟩:=z
 have e2:items xs++rest=items (xs.take 16)++((some u,v)::rest):=by
  conv=>lhs; rw [e]
  unfold items
  rw [List.map_append,hz,List.append_assoc]
  rfl
 rw [e2]
 refine GP hf _ [] (by rw [List.length_take]; simp; omega) ?_
 refine GE.forCons (b1:=(m',[])) (T1:=T1) (n1:=n1) (k1:=k1) ?_ g
 have e3:[]++xs.take 16++[(u,v)]=xs:=by rw [List.nil_append,←hz]; exact e.symm
 rw [hf,e3,if_pos (by rw [hl]; rfl)]
 exact GE.mono (B:=B1+0) (GE.bind h GE.pure) (by exact Nat.le_refl _)
theorem aAl {xs:List (Sem Value × Sem Value)}{as:List Pr}(h:dN p w n₀ ann code below xs as){T:BT}{n k:Nat}(m:dM n₀ ann n=true)(g:((T.ins n default).get n).isSome=true)(hl:15<as.length)(hz:as.length<100000)(nd:(as.map (·.1)).Nodup):
  GE (cQ p w n₀ ann) p w n₀ ann code below (iQ xs none) T n k (some n) (T.ins n (aI (aN as k) as.length)) (n+1) (k+3*as.length) (2+13*as.length):=by
 unfold iQ
 have:xs.isEmpty=false:=by cases h with
  |nil=>simp at hl
  |cons _ _=>rfl
 rw [if_neg (by rw [this]; exact Bool.false_ne_true)]
 exact GE.mono (B:=2+13*as.length+0) (GE.bind (GN h m g hl hz nd) GE.pure) (by exact Nat.le_refl _)
theorem GR {d:Nat}(md:dM n₀ ann d=true){xs:List (Sem Value × Sem Value)}{as:List Pr}(h:dN p w n₀ ann code below xs as){T:BT}{n k:Nat}{es:List DictEntry}(m:dM n₀ ann n=true)(g:((T.ins n default).get n).isSome=true)(gd:T.get d=some (aI es es.length))(l:d<n)(hn:(n==sysModules)=false)(he:es≠[])
  {ss:List DictEntry} (ik:rW ss) (sh:ss.map (·.hash)=as.map (·.1)) (hz:es.length+ss.length<100000) (fr:∀e∈es,e.hash∉as.map (·.1)) (nd:(as.map (·.1)).Nodup) {B:Nat} (hsub:GE (cQ p w n₀ ann) p w n₀ ann code below (subDict xs) T n k n (T.ins n (aI ss ss.length)) (n+1) (k+3*as.length) B) (hpos:0<as.length) :
  GE (cQ p w n₀ ann) p w n₀ ann code below (iQ xs (some d)) T n k (some d) ((T.ins n (aI ss ss.length)).set d fun zz=>aI (es++ss) (es.length+ss.length)) (n+1) (k+3*as.length) (B+(6+6*ss.length)):=by
 unfold iQ
 have:xs.isEmpty=false:=by cases h with
  |nil=>simp at hpos
  |cons _ _=>rfl
 have g1:∀o,((T.ins n o).get n).isSome=true:=fun o=>by rw [BT.ins_some o default]; exact g
 rw [if_neg (by rw [this]; exact Bool.false_ne_true)]
 refine GE.bind (GE.holding hsub) ?_
 refine GE.mono (B:=6+6*ss.length+0) (GE.bind (a:=()) (GE.onRaise (GE.holding ?_)) GE.pure) (by exact Nat.le_refl _)
 exact aAg md (Nat.ne_of_lt l) hn ik (by rw [BT.ins_get_ne (g1 _) (Nat.ne_of_lt l)]; exact gd) (BT.ins_get (g1 _)) (Nat.lt_succ_of_lt l) (Nat.lt_succ_self _) hz he (by rw [sh]; exact fr) (by rw [sh]; exact nd)
end
noncomputable def cZ (T:BT)(n:Nat):Prop:=∀i,i<n→(T.get i).isSome=true
theorem cZ.ins_ok (o:Obj):∀(T:BT) (n:Nat),cZ T n→((T.ins n o).get n).isSome=true
 |.nil,n,h=>by
  have e1:(BT.nil.ins n o)=.node o .nil .nil:=rfl
  rw [e1,BT.get_node]
  by_cases hn:n=0
  ·rw [if_pos hn]; rfl
  ·have:=h 0 (by exact Nat.pos_of_ne_zero hn); simp [BT.get] at this
 |.node v l r,n,h=>by
  rw [BT.ins_node]
  by_cases hn:n=0
  ·rw [if_pos hn,BT.get_node,if_pos hn]; rfl
  ·rw [if_neg hn]
   by_cases q:n%2=1
   ·rw [if_pos q,BT.get_node,if_neg hn,if_pos q]
    refine cZ.ins_ok o l _ fun i hi=>?_
    have:=h (2*i+1) (by omega)
    rw [BT.get_node,if_neg (by exact Nat.succ_ne_zero _),if_pos (by omega),show (2*i+1) / 2=i by omega] at this
    exact this
   ·rw [if_neg q,BT.get_node,if_neg hn,if_neg q]
    refine cZ.ins_ok o r _ fun i hi=>?_
    have:=h (2*i+2) (by omega)
    rw [BT.get_node,if_neg (by exact Nat.succ_ne_zero _),if_neg (by omega),show (2*i+2) / 2-1=i by omega] at this
    exact this
theorem cZ.ins {T:BT}{n:Nat}(h:cZ T n)(o:Obj):cZ (T.ins n o) (n+1):=fun i hi=>by
 rw [BT.get_ins _ _ _ (h.ins_ok o)]
 by_cases e:i=n
 ·rw [if_pos e]; rfl
 ·rw [if_neg e]; exact h i (by omega)
theorem cZ.set {T:BT}{n a:Nat}(h:cZ T n)(f:Obj→Obj):cZ (T.set a f) n:=fun i hi=>by
 rw [BT.get_set]
 by_cases e:i=a
 ·rw [if_pos e,Option.isSome_map]; exact h a (e▸hi)
 ·rw [if_neg e]; exact h i hi
section
variable {p:Program}{w:World}{n₀:Nat}{ann:Option Value}{code:Code}{below:List (Code × Pos)}
theorem mU {n:Nat}(h:n₀≤n):dM n₀ ann n=true:=by
 unfold dM
 rw [show Nat.ble n₀ n=true from Nat.ble_eq_true_of_le h]
 rfl
theorem yX:∀(chs:List (List Pr)) (k:Nat) (es:List DictEntry),(eP chs k es).length=es.length+eG chs
 |[],_,_=>rfl
 |c::r,k,es=>by rw [uP,yX r,List.length_append,hU,yW]; exact Nat.add_assoc _ _ _
theorem GS:∀(chs:List (List Pr)) (k:Nat) (es:List DictEntry),(eP chs k es).map (·.hash)=es.map (·.hash)++chs.flatten.map (·.1)
 |[],_,es=>by rw [show eP [] _ es=es from rfl,List.flatten_nil,List.map_nil,List.append_nil]
 |c::r,k,es=>by rw [uP,GS r,List.map_append,oU,List.flatten_cons,List.map_append,List.append_assoc]
theorem aAm {f:It→Option Addr × List (Sem Value × Sem Value)→Sem (ForInStep (Option Addr × List (Sem Value × Sem Value)))}
  (hf:∀k v m run,f (some k,v) (m,run)=if ((run++[(k,v)]).length==17)=true then iQ (run++[(k,v)]) m>>=fun m'=>pure (ForInStep.yield (m',[])) else pure (ForInStep.yield (m,run++[(k,v)])))
  {d:Nat} (hd:n₀≤d) (h1:1<d) {rest:List It} {B:Nat} {b:Option Addr × List (Sem Value × Sem Value)} {T':BT} {n' k':Nat}:∀(chs:List (List Pr)) {xs:List (Sem Value × Sem Value)},dN p w n₀ ann code below xs chs.flatten→(∀c∈chs,c.length=17) →
   ∀{T:BT} {n k:Nat} {es:List DictEntry},cZ T n→T.get d=some (aI es es.length)→d<n→es≠[]→es.length+eG chs<100000→(es.map (·.hash)++chs.flatten.map (·.1)).Nodup →
   (cZ (eF d chs T n k es) (n+chs.length)→(eF d chs T n k es).get d=some (aI (eP chs k es) (eP chs k es).length)→GE (cQ p w n₀ ann) p w n₀ ann code below (forIn rest (some d,[]) f) (eF d chs T n k es) (n+chs.length) (k+3*eG chs) b T' n' k' B) →
   GE (cQ p w n₀ ann) p w n₀ ann code below (forIn (items xs++rest) (some d,[]) f) T n k b T' n' k' (400*chs.length+B):=by
 intro chs
 induction chs with
 |nil=>
  intro xs h hl T n k es F gd l he hz nd g
  cases h
  exact GE.mono (g F gd) (by exact Nat.le_add_left _ _)
 |cons c chs ih=>
  intro xs h hl T n k es F gd l he hz nd g
  rw [List.flatten_cons] at h nd
  obtain ⟨ys,zs,rfl,hy,hzs⟩:=h.split
  have cl:c.length=17:=hl c (List.mem_cons_self ..)
  rw [yW] at hz
  rw [List.map_append] at nd
  have nd0:=List.nodup_append.mp nd
  have nd1:=List.nodup_append.mp nd0.2.1
  have fr:∀e∈es,e.hash∉c.map (·.1):=fun e he q=>nd0.2.2 e.hash (List.mem_map_of_mem he) e.hash (List.mem_append_left _ q) rfl
  have sub:=GN (p:=p) (w:=w) (n₀:=n₀) (ann:=ann) (code:=code) (below:=below) hy (T:=T) (n:=n) (k:=k) (mU (by exact Nat.le_of_lt (Nat.lt_of_le_of_lt hd l))) (F.ins_ok _) (by omega) (by omega) nd1.1
  have F1:cZ ((T.ins n (aI (aN c k) c.length)).set d fun zz=>aI (es++aN c k) (es.length+c.length)) (n+1):=(F.ins _).set _
  have gd1:((T.ins n (aI (aN c k) c.length)).set d fun zz=>aI (es++aN c k) (es.length+c.length)).get d=some (aI (es++aN c k) (es++aN c k).length):=by
   rw [BT.get_set,if_pos rfl,BT.ins_get_ne (F.ins_ok _) (Nat.ne_of_lt l),gd,List.length_append,hU]; rfl
  have sl:(aN c k).length=c.length:=hU c k
  have fl:=GR (p:=p) (w:=w) (n₀:=n₀) (ann:=ann) (code:=code) (below:=below) (d:=d) (mU hd) hy (T:=T) (n:=n) (k:=k) (es:=es) (mU (by exact Nat.le_of_lt (Nat.lt_of_le_of_lt hd l))) (F.ins_ok _) gd l
   (by rw [beq_eq_false_iff_ne]; show n≠1; omega) he (ss:=aN c k) (fun e he=>GM _ _ e he) (oU _ _) (by rw [sl]; omega) fr nd1.1 (B:=2+13*c.length) (by rw [sl]; exact sub) (by omega)
  rw [sl] at fl
  have g':=g
  rw [GO,uP,yW,List.length_cons,show n+(chs.length+1)=n+1+chs.length by omega,show k+3*(c.length+eG chs)=k+3*c.length+3*eG chs by omega] at g'
  have next:=ih hzs (fun c hc=>hl c (List.mem_cons_of_mem _ hc)) F1 gd1 (Nat.lt_succ_of_lt l) (by intro q; exact he (List.append_eq_nil_iff.mp q).1) (by rw [List.length_append,sl]; omega)
   (by rw [List.map_append,oU,List.append_assoc]; exact nd) g'
  have it:items (ys++zs)++rest=items ys++(items zs++rest):=by unfold items; rw [List.map_append,List.append_assoc]
  rw [it]
  refine GE.mono (GQ hf (by rw [hy.length,cl]) fl next) (by rw [List.length_cons,cl]; omega)
theorem GT {d:Nat}:∀(chs:List (List Pr)) {T:BT} {n k:Nat} {es:List DictEntry},cZ T n→T.get d=some (aI es es.length)→d<n →
  cZ (eF d chs T n k es) (n+chs.length)∧(eF d chs T n k es).get d=some (aI (eP chs k es) (eP chs k es).length)
 |[],T,n,k,es,F,g,l=>⟨F,g⟩
 |c::r,T,n,k,es,F,g,l=>by
  rw [GO,uP,List.length_cons,show n+(r.length+1)=n+1+r.length by omega]
  refine GT r ((F.ins _).set _) ?_ (Nat.lt_succ_of_lt l)
  rw [BT.get_set,if_pos rfl,BT.ins_get_ne (F.ins_ok _) (Nat.ne_of_lt l),g,List.length_append,hU]; rfl
theorem aAn {xs:List (Sem Value × Sem Value)}{c0 last:List Pr}{chs:List (List Pr)}(h:dN p w n₀ ann code below xs (c0++(chs.flatten++last)))(l0:c0.length=17)(hl:∀c∈chs,c.length=17)(ll:0<last.length)(ll':last.length≤15)
  (hr:∀a∈last,0≤a.1∧a.1<2000000) {T:BT} {n k:Nat} (F:cZ T n) (hn0:n₀≤n) (h1:1<n) (hz:17+eG chs+last.length<100000) (nd:((c0++(chs.flatten++last)).map (·.1)).Nodup) {es2:List DictEntry} {T2:BT} {n2 k2:Nat}
  (e1:es2=eP chs (k+51) (aN c0 k)) (e2:T2=eF n chs (T.ins n (aI (aN c0 k) 17)) (n+1) (k+51) (aN c0 k)) (e3:n2=n+1+chs.length) (e4:k2=k+51+3*eG chs) :
  GE (cQ p w n₀ ann) p w n₀ ann code below (dictDisplay (items xs)) T n k (.ref n) ((T2.ins n2 (aI (dO last k2) last.length)).set n fun zz=>aI (es2++dO last k2) (es2.length+last.length)) (n2+1) (k2+3*last.length) (1000+400*chs.length):=by
 obtain ⟨f,hd,hf⟩:=aAk xs
 rw [hd]
 obtain ⟨ys,zs,rfl,hy,hzs⟩:=h.split
 obtain ⟨us,vs,rfl,hu,hv⟩:=hzs.split
 rw [List.map_append,List.map_append] at nd
 have nd0:=List.nodup_append.mp nd
 have nd1:=List.nodup_append.mp nd0.2.1
 have it:items (ys++(us++vs))=items ys++(items us++items vs):=by unfold items; rw [List.map_append,List.map_append]
 rw [it]
 have fl0:=aAl (p:=p) (w:=w) (n₀:=n₀) (ann:=ann) (code:=code) (below:=below) hy (T:=T) (n:=n) (k:=k) (mU hn0) (F.ins_ok _) (by omega) (by omega) nd0.1
 rw [l0] at fl0
 have F1:cZ (T.ins n (aI (aN c0 k) 17)) (n+1):=F.ins _
 have gd1:(T.ins n (aI (aN c0 k) 17)).get n=some (aI (aN c0 k) (aN c0 k).length):=by rw [BT.ins_get (F.ins_ok _),hU,l0]
 have hne:aN c0 k≠[]:=by intro q; have:=congrArg List.length q; rw [hU,l0] at this; simp at this
 subst e1 e2 e3 e4
 have key:GE (cQ p w n₀ ann) p w n₀ ann code below (forIn (items us++items vs) (some n,[]) f) (T.ins n (aI (aN c0 k) 17)) (n+1) (k+3*17) (some n,vs) (eF n chs (T.ins n (aI (aN c0 k) 17)) (n+1) (k+51) (aN c0 k)) (n+1+chs.length) (k+51+3*eG chs) (400*chs.length+0):=by
  refine aAm hf hn0 h1 chs hu hl F1 gd1 (Nat.lt_succ_self _) hne (by rw [hU,l0]; exact Nat.lt_of_le_of_lt (Nat.le_add_right _ _) hz) ?_ ?_
  ·rw [oU]
   refine List.nodup_append.mpr ⟨nd0.1,nd1.1,fun a ha b hb=>nd0.2.2 a ha b (List.mem_append_left _ hb)⟩
  ·intro _ _
   have:=GP (p:=p) (w:=w) (n₀:=n₀) (ann:=ann) (code:=code) (below:=below) hf (m:=some n) vs [] (rest:=[]) (by simp; rw [hv.length]; exact Nat.le_succ_of_le ll') (T:=eF n chs (T.ins n (aI (aN c0 k) 17)) (n+1) (k+51) (aN c0 k)) (n:=n+1+chs.length) (k:=k+51+3*eG chs) (b:=(some n,vs)) (T':=eF n chs (T.ins n (aI (aN c0 k) 17)) (n+1) (k+51) (aN c0 k)) (n':=n+1+chs.length) (k':=k+51+3*eG chs) (B:=0) (by rw [List.nil_append]; exact GE.forNil)
   rw [List.append_nil] at this
   exact this
 have gd2:cZ (eF n chs (T.ins n (aI (aN c0 k) 17)) (n+1) (k+51) (aN c0 k)) (n+1+chs.length)∧(eF n chs (T.ins n (aI (aN c0 k) 17)) (n+1) (k+51) (aN c0 k)).get n=some (aI (eP chs (k+51) (aN c0 k)) (eP chs (k+51) (aN c0 k)).length):=GT chs F1 gd1 (Nat.lt_succ_self _)
 obtain ⟨F2,gd2⟩:=gd2
 have sub:=aAj (p:=p) (w:=w) (n₀:=n₀) (ann:=ann) (code:=code) (below:=below) hv hr (T:=eF n chs (T.ins n (aI (aN c0 k) 17)) (n+1) (k+51) (aN c0 k)) (n:=n+1+chs.length) (k:=k+51+3*eG chs) (mU (by omega)) (F2.ins_ok _) ll' nd1.2.1
 have sl:(dO last (k+51+3*eG chs)).length=last.length:=uN ..
 have fl1:=GR (p:=p) (w:=w) (n₀:=n₀) (ann:=ann) (code:=code) (below:=below) (d:=n) (mU hn0) hv (mU (by omega)) (F2.ins_ok _) gd2 (by exact Nat.le_add_right _ _)
   (by rw [beq_eq_false_iff_ne]; show n+1+chs.length≠1; omega) (by intro q; have:=congrArg List.length q; rw [yX,hU,l0] at this; simp at this) (ss:=dO last (k+51+3*eG chs)) (yV _ _) (uO _ _) (by rw [sl,yX,hU]; omega)
   (fun e he q=>by
    have:e.hash∈(eP chs (k+51) (aN c0 k)).map (·.hash):=List.mem_map_of_mem he
    rw [GS,oU] at this
    rcases List.mem_append.mp this with h |h
    ·exact nd0.2.2 _ h _ (List.mem_append_right _ q) rfl
    ·exact nd1.2.2 _ h _ q rfl) nd1.2.1 (B:=1+13*last.length) (by rw [sl]; exact sub) ll
 rw [sl] at fl1
 refine GE.mono (B:=(2+13*17+(400*chs.length+0))+((1+13*last.length+(6+6*last.length))+0)) ?_ (by omega)
 refine GE.bind (GQ hf (by rw [hy.length,l0]) fl0 key) ?_
 refine GE.bind fl1 ?_
 exact GE.pure
theorem aAo {m:Nat}{cc:Code}{q q':Pos}{T T':BT}{n k n' k' c e:Nat}{f:Flow}(h:go (oP kM p w n₀ ann m) p w n₀ ann cc below (kM cc) q T n k c=some (.ok (.done f),q',T',n',k',c+e)):
  oP kM p w n₀ ann (m+1) cc below q T n k c=some (.ok f,T',n',k',c+(e+1)):=by
 exact dG h rfl
theorem aAp {call:fP}{cc:Code}{q:Pos}{T T':BT}{n k n' k' c e:Nat}{f:Flow}(h:call cc ((code,q)::below) q T n k (c+1)=some (.ok f,T',n',k',c+1+e)):
  go call p w n₀ ann code below (run cc) q T n k c=some (.ok f,q,T',n',k',c+1+e):=by
 exact dG h rfl
theorem aAq {call:fP}(hc:rV call){t:Sem Value}{tail:Value→Sem Flow}{nx:Flow→Sem Flow}{p1 p2 q0 q2:Pos}{T T1 T2:BT}{n k n1 k1 n2 k2 B d:Nat}{v:Value}
  (h:GE call p w n₀ ann code below t T n k v T1 n1 k1 B) (ht:∀q,go call p w n₀ ann code below (tail v) q T1 n1 k1 0=some (.ok .next,q2,T2,n2,k2,d)) (hn:nx .next=pure .next) :
  ∀c,∃e,e≤B+d+2∧go call p w n₀ ann code below ((standAt p1>>=fun zz=>((standAt p2>>=fun zz=>t)>>=tail))>>=nx) q0 T n k c=some (.ok .next,q2,T2,n2,k2,c+e):=fun c=>by
 obtain ⟨e,q',h1,h2⟩:=h p2 (c+1+1)
 refine ⟨1+1+e+d,by omega,?_⟩
 have h3:=uL hc _ (c+1+1+e) (ht q')
 rw [Nat.add_zero] at h3
 have s1:∀(x:Pos) (q:Pos) (T:BT) (n k c:Nat),go call p w n₀ ann code below (standAt x) q T n k c=some (.ok (),x,T,n,k,c+1):=fun zz zz zz zz zz zz=>rfl
 rw [iP,iP,s1]
 show hO (go call p w n₀ ann code below ((standAt p2>>=fun zz=>t)>>=tail) p1 T n k (c+1)) _=_
 rw [iP,iP,s1]
 show hO (hO (go call p w n₀ ann code below t p2 T n k (c+1+1)) _) _=_
 rw [h2]
 show hO (go call p w n₀ ann code below (tail v) q' T1 n1 k1 (c+1+1+e)) _=_
 rw [h3]
 show go call p w n₀ ann code below (nx .next) q2 T2 n2 k2 (c+1+1+e+d)=_
 rw [hn,show c+1+1+e+d=c+(1+1+e+d) by omega]
 rfl
end
noncomputable section
noncomputable abbrev pw:Program:=PySem.Challenge.pw_sr0089_01
noncomputable def N (s:String):PySem.Str:=PySem.Str.ofString s
noncomputable def S (s:String)(t:Nat):Value:=.str (PySem.Str.ofString s) t
noncomputable def E (P:Params)(s:String)(t:Nat)(v:Value):DictEntry:=⟨PyData.keyHash P (PySem.Str.ofString s),.str (PySem.Str.ofString s) t,v⟩
noncomputable def cO {α:Type}:Nat→List α→List α
 |0,l=>l
 |_+1,[]=>[]
 |n+1,_::l=>cO n l
noncomputable def uQ {α:Type}:Nat→List α→List α
 |0,_=>[]
 |_+1,[]=>[]
 |n+1,x::l=>x::uQ n l
noncomputable def GU:List Stmt→Stmt
 |s::_=>s
 |[]=>.Pass default
noncomputable def stN (i:Nat):Stmt:=GU (cO i pw.main.body)
noncomputable def aAr:Stmt→List Stmt
 |.ClassDef _ _ _ b _ _ _ _ _ _ _=>b
 |_=>[]
noncomputable def stC (i j:Nat):Stmt:=GU (cO j (aAr (stN i)))
noncomputable def fArgs:Stmt→Arguments
 |.FunctionDef _ a _ _ _ _ _ _ _ _=>a
 |_=>default
noncomputable def fBody:Stmt→List Stmt
 |.FunctionDef _ _ b _ _ _ _ _ _ _=>b
 |_=>[]
noncomputable def fScope:Stmt→Scope
 |.FunctionDef _ _ _ _ _ _ s _ _ _=>s
 |_=>default
noncomputable def part (i n:Nat):List Stmt:=uQ n (cO i pw.main.body)
noncomputable def bT:Env:={scope:=pw.main.scope,locals:=mainNs,globals:=mainNs,cells:=[],code:=.ref 13,frame:=some 14}
noncomputable def dW:Code:=.body (behindTheImports pw) bT
noncomputable def fC:List (Code × Pos):=[(.builtin "claim.caller" {},⟨0,0,0,0⟩)]
noncomputable def goS (w:World)(l:List Stmt)(q:Pos)(T:BT)(n k:Nat):Res (Except Value Flow):=go (cQ pw w 11 (some (.ref 6))) pw w 11 (some (.ref 6)) dW fC (GC l bT) q T n k 0
noncomputable def oV:List (Option PySem.Expr):=match stN 10 with
 |.Assign _ (.Dict ks _ _) _=>ks
 |_=>[]
noncomputable def oW:List PySem.Expr:=match stN 10 with
 |.Assign _ (.Dict _ vs _) _=>vs
 |_=>[]
noncomputable def mV:Pos:=match stN 10 with
 |.Assign _ (.Dict _ _ p) _=>p
 |_=>default
noncomputable def yY (e:PySem.Expr):Option Const:=match e with
 |.Constant c _ _=>some c
 |_=>none
noncomputable def aAs (c:Const):Option Int:=match c with
 |.int i=>some i
 |_=>none
noncomputable def aAt (c:Const):Option PySem.Str:=match c with
 |.str s=>some s
 |_=>none
noncomputable def fD (k:Option PySem.Expr):Option Int:=onO k fun e=>onO (yY e) aAs
noncomputable def GW (e:PySem.Expr):Option PySem.Str:=onO (yY e) aAt
noncomputable def GX (k:Option PySem.Expr)(v:PySem.Expr):Option Pr:=onO (fD k) fun i=>onO (GW v) fun s=>onB (decide (0≤i) && decide (i<2000000)) (some (i,s))
noncomputable def uR:List (Option PySem.Expr)→List PySem.Expr→Option (List Pr)
 |[]=>fun vs=>List.casesOn (motive:=fun zz=>Option (List Pr)) vs (some []) fun zz zz=>none
 |k::ks=>fun vs=>List.casesOn (motive:=fun zz=>Option (List Pr)) vs none fun v vs=>onO (GX k v) fun a=>onO (uR ks vs) fun as=>some (a::as)
noncomputable def b3p:List Pr:=match uR oV oW with
 |some l=>l
 |none=>[]
noncomputable def rX:List Pr:=uQ 17 b3p
noncomputable def kQ:List Pr:=cO 646 b3p
noncomputable def GY:Nat→List Pr→List (List Pr)
 |0,_=>[]
 |n+1,l=>uQ 17 l::GY n (cO 17 l)
noncomputable def mW:List (List Pr):=GY 37 (cO 17 b3p)
noncomputable def esB:List DictEntry:=eP mW 469 (aN rX 418)
noncomputable def GZ:List (List Pr)→Nat→Nat→Obj
 |[],_,_=>default
 |c::_,k,0=>aI (aN c k) c.length
 |c::r,k,j+1=>GZ r (k+3*c.length) j
noncomputable def b3o:Nat→Obj
 |0=>aI (esB++dO kQ 2356) (esB.length+4)
 |38=>aI (dO kQ 2356) 4
 |j+1=>GZ mW 469 j
noncomputable def K:Obj→BT→BT→BT:=.node
noncomputable def L (o:Obj):BT:=.node o .nil .nil
noncomputable def i (n:Nat):Value:=.int n 0
noncomputable def r (n:Nat):Value:=.ref n
noncomputable def FO (t:Value)(a b:String)(x:Stmt)(g:Nat)(m c:Value):Obj:=⟨t,none,.func {name:=N a,qualname:=N b,params:=fArgs x,body:=.stmts (fBody x),scope:=fScope x,globals:=g,closure:=[],defaults:=.none,kwdefaults:=.none,doc:=.none,pyModule:=m,annotations:=none,code:=c,closureTuple:=.none,builtins:=0},#[]⟩
noncomputable def CO (a:String)(a':Nat)(b:String)(b' c d e f g h j:Nat)(k:Bool)(l m:Nat)(o p q u:Value)(v w x:Nat):Obj:=⟨.type "code",none,.fields #[S a a',S b b',S "/claim/cut.py" c,i d,i e,i f,i g,i h,.ref j,.bool k,i l,.ref m,o,p,q,u,i v,i w,S "/claim/cut.py" x],#[]⟩
noncomputable def FI (t:Value)(l:Array Value):Obj:=⟨t,none,.fields l,#[]⟩
noncomputable def DI (l:Array DictEntry)(n:Nat):Obj:=⟨.type "dict",none,.dict l n,#[]⟩
noncomputable def aA:Obj:=⟨(.type "tuple"),none,(.seq #[] 0),#[]⟩
noncomputable def aE:Obj:=FI .none #[]
noncomputable def fE:Obj:=CO "<module>" 182 "<module>" 183 184 1 0 0 0 0 11 false 181 12 .none .none .none .none 185 1 186
noncomputable def fF:Obj:=⟨(.type "frame"),none,.plain,#[(some (.ref 13)),(some (.ref 3)),(some (.ref 3)),none,(some (S "__main__" 164)),none,(some (.ref 0))]⟩
noncomputable def tr0 (P:Params):BT:=K (boot_o_0 P) (K (boot_o_1 P) (K (boot_o_3 P) (L (boot_o_7 P)) (L aA)) (K (boot_o_5 P) (L (boot_o_9 P)) (L fE))) (K (boot_o_2 P) (K (boot_o_4 P) (L (boot_o_8 P)) (L aE)) (K (boot_o_6 P) (L (boot_o_10 P)) (L fF)))
noncomputable def aAu (P:Params):Obj:=DI #[E P "__name__" 165 (S "cpy313.tabnanny" 194),E P "__doc__" 166 .none,E P "__package__" 167 .none,E P "__loader__" 168 (.builtin "__main__.__loader__#opaque"),E P "__spec__" 169 .none,E P "__annotations__" 170 (r 6),E P "__builtins__" 171 (r 4),E P "__file__" 173 (S "/claim/cut.py" 172),E P "__cached__" 174 .none,E P "_wall" 193 (r 21)] 10
noncomputable def aAv:Obj:=FI .none #[i 1,i 0,.ref 20]
noncomputable def gB:Obj:=⟨(.type "tuple"),none,(.seq #[(S "k" 190)] 0),#[]⟩
noncomputable def gC:Obj:=FO .none "_wall" "_wall" (stN 0) 0 .none .none
noncomputable def gE:Obj:=CO "_wall" 187 "_wall" 188 189 1 1 0 0 3 15 true 181 16 .none (.ref 17) (.ref 18) (.ref 19) 191 1 192
noncomputable def gF:Obj:=FO (.type "function") "_wall" "_wall" (stN 0) 3 (S "__main__" 164) (.ref 20)
noncomputable def tr1 (P:Params):BT:=K (boot_o_0 P) (K (boot_o_1 P) (K (aAu P) (K (boot_o_7 P) (L aA) .nil) (K aA (L gC) .nil)) (K (boot_o_5 P) (K (boot_o_9 P) (L gB) .nil) (K fE (L gF) .nil))) (K (boot_o_2 P) (K (boot_o_4 P) (K (boot_o_8 P) (L aE) .nil) (K aAv (L gE) .nil)) (K (boot_o_6 P) (K (boot_o_10 P) (L aA) .nil) (L fF)))
noncomputable def aAw (P:Params):Obj:=DI #[E P "__name__" 165 (S "cpy313.tabnanny" 194),E P "__doc__" 166 .none,E P "__package__" 167 .none,E P "__loader__" 168 (.builtin "__main__.__loader__#opaque"),E P "__spec__" 169 .none,E P "__annotations__" 170 (r 6),E P "__builtins__" 171 (r 4),E P "__file__" 173 (S "/claim/cut.py" 172),E P "__cached__" 174 .none,E P "_wall" 193 (r 21),E P "Whitespace" 296 (r 83)] 11
noncomputable def aAx:Obj:=FI .none #[i 1,i 0,.ref 20,i 5,i 0,.ref 27]
noncomputable def hV:Obj:=FI (.type "builtin_function_or_method") #[(.builtin "type.__prepare__"),(.type "type")]
noncomputable def gG (P:Params):Obj:=DI #[E P "__module__" 203 (S "cpy313.tabnanny" 194),E P "__qualname__" 205 (S "Whitespace" 204),E P "__firstlineno__" 207 (.int 5 206),E P "S" 211 (S " " 209),E P "T" 212 (S "\t" 210),E P "__init__" 227 (r 38),E P "longest_run_of_spaces" 236 (r 45),E P "indent_level" 248 (r 52),E P "equal" 256 (r 59),E P "not_equal_witness" 264 (r 66),E P "less" 272 (r 73),E P "not_less_witness" 283 (r 80),E P "__static_attributes__" 289 (r 81)] 13
noncomputable def iR:Obj:=FI .none #[i 8,i 4,.ref 37,i 31,i 4,.ref 44,i 35,i 4,.ref 51,i 42,i 4,.ref 58,i 45,i 4,.ref 65,i 48,i 4,.ref 72,i 51,i 4,.ref 79]
noncomputable def iS:Obj:=CO "Whitespace" 198 "Whitespace" 199 200 5 0 0 0 0 25 false 181 26 .none .none .none .none 201 5 202
noncomputable def iT:Obj:=⟨(.type "frame"),none,.plain,#[(some (.ref 27)),(some (.ref 3)),(some (.ref 24)),none,(some (S "cpy313.tabnanny" 194)),none,(some (.ref 0))]⟩
noncomputable def iU:Obj:=FI (.type "str_ascii_iterator") #[.none,i 2]
noncomputable def kR:Obj:=FI (.type "StopIteration") #[.ref 30,.none,.none,.none,(.bool false),.none]
noncomputable def jO:Obj:=⟨(.type "tuple"),none,(.seq #[(S "self" 216),(S "ws" 217),(S "S" 218),(S "T" 219),(S "count" 220),(S "b" 221),(S "n" 222),(S "nt" 223),(S "ch" 224)] 0),#[]⟩
noncomputable def kT:Obj:=FO .none "__init__" "Whitespace.__init__" (stC 2 1) 0 .none .none
noncomputable def kU:Obj:=CO "__init__" 213 "Whitespace.__init__" 214 215 8 2 0 0 3 32 true 181 33 .none (.ref 34) (.ref 35) (.ref 36) 225 8 226
noncomputable def kW:Obj:=FO (.type "function") "__init__" "Whitespace.__init__" (stC 2 1) 3 (S "cpy313.tabnanny" 194) (.ref 37)
noncomputable def kZ:Obj:=⟨(.type "tuple"),none,(.seq #[(S "self" 231),(S "count" 232),(S "trailing" 233)] 0),#[]⟩
noncomputable def lA:Obj:=FO .none "longest_run_of_spaces" "Whitespace.longest_run_of_spaces" (stC 2 2) 0 .none .none
noncomputable def lB:Obj:=CO "longest_run_of_spaces" 228 "Whitespace.longest_run_of_spaces" 229 230 31 1 0 0 3 39 true 181 40 .none (.ref 41) (.ref 42) (.ref 43) 234 31 235
noncomputable def lC:Obj:=FO (.type "function") "longest_run_of_spaces" "Whitespace.longest_run_of_spaces" (stC 2 2) 3 (S "cpy313.tabnanny" 194) (.ref 44)
noncomputable def lD:Obj:=⟨(.type "tuple"),none,(.seq #[(S "self" 240),(S "tabsize" 241),(S "count" 242),(S "trailing" 243),(S "il" 244),(S "i" 245)] 0),#[]⟩
noncomputable def lE:Obj:=FO .none "indent_level" "Whitespace.indent_level" (stC 2 3) 0 .none .none
noncomputable def lH:Obj:=CO "indent_level" 237 "Whitespace.indent_level" 238 239 35 2 0 0 3 46 true 181 47 .none (.ref 48) (.ref 49) (.ref 50) 246 35 247
noncomputable def lI:Obj:=FO (.type "function") "indent_level" "Whitespace.indent_level" (stC 2 3) 3 (S "cpy313.tabnanny" 194) (.ref 51)
noncomputable def lJ:Obj:=⟨(.type "tuple"),none,(.seq #[(S "self" 252),(S "other" 253)] 0),#[]⟩
noncomputable def lK:Obj:=FO .none "equal" "Whitespace.equal" (stC 2 4) 0 .none .none
noncomputable def lL:Obj:=CO "equal" 249 "Whitespace.equal" 250 251 42 2 0 0 3 53 true 181 54 .none (.ref 55) (.ref 56) (.ref 57) 254 42 255
noncomputable def lM:Obj:=FO (.type "function") "equal" "Whitespace.equal" (stC 2 4) 3 (S "cpy313.tabnanny" 194) (.ref 58)
noncomputable def lN:Obj:=⟨(.type "tuple"),none,(.seq #[(S "self" 260),(S "other" 261)] 0),#[]⟩
noncomputable def oX:Obj:=FO .none "not_equal_witness" "Whitespace.not_equal_witness" (stC 2 5) 0 .none .none
noncomputable def oY:Obj:=CO "not_equal_witness" 257 "Whitespace.not_equal_witness" 258 259 45 2 0 0 3 60 true 181 61 .none (.ref 62) (.ref 63) (.ref 64) 262 45 263
noncomputable def oZ:Obj:=FO (.type "function") "not_equal_witness" "Whitespace.not_equal_witness" (stC 2 5) 3 (S "cpy313.tabnanny" 194) (.ref 65)
noncomputable def pA:Obj:=⟨(.type "tuple"),none,(.seq #[(S "self" 268),(S "other" 269)] 0),#[]⟩
noncomputable def pB:Obj:=FO .none "less" "Whitespace.less" (stC 2 6) 0 .none .none
noncomputable def pC:Obj:=CO "less" 265 "Whitespace.less" 266 267 48 2 0 0 3 67 true 181 68 .none (.ref 69) (.ref 70) (.ref 71) 270 48 271
noncomputable def pD:Obj:=FO (.type "function") "less" "Whitespace.less" (stC 2 6) 3 (S "cpy313.tabnanny" 194) (.ref 72)
noncomputable def pE:Obj:=⟨(.type "tuple"),none,(.seq #[(S "self" 276),(S "other" 277),(S "n" 278),(S "a" 279),(S "ts" 280)] 0),#[]⟩
noncomputable def pF:Obj:=FO .none "not_less_witness" "Whitespace.not_less_witness" (stC 2 7) 0 .none .none
noncomputable def pG:Obj:=CO "not_less_witness" 273 "Whitespace.not_less_witness" 274 275 51 2 0 0 3 74 true 181 75 .none (.ref 76) (.ref 77) (.ref 78) 281 51 282
noncomputable def pH:Obj:=FO (.type "function") "not_less_witness" "Whitespace.not_less_witness" (stC 2 7) 3 (S "cpy313.tabnanny" 194) (.ref 79)
noncomputable def pI:Obj:=⟨(.type "tuple"),none,(.seq #[(S "is_simple" 284),(S "n" 285),(S "norm" 286),(S "nt" 287),(S "raw" 288)] 0),#[]⟩
noncomputable def pJ (P:Params):Obj:=DI #[E P "__module__" 203 (S "cpy313.tabnanny" 194),E P "__firstlineno__" 207 (.int 5 206),E P "S" 211 (S " " 209),E P "T" 212 (S "\t" 210),E P "__init__" 227 (r 38),E P "longest_run_of_spaces" 236 (r 45),E P "indent_level" 248 (r 52),E P "equal" 256 (r 59),E P "not_equal_witness" 264 (r 66),E P "less" 272 (r 73),E P "not_less_witness" 283 (r 80),E P "__static_attributes__" 289 (r 81),E P "__dict__" 291 (r 84),E P "__weakref__" 293 (r 85),E P "__doc__" 294 .none] 4
noncomputable def pK:Obj:=⟨(.type "type"),none,(.cls {name:=(N "Whitespace"),bases:=[(.type "object")],mro:=[(.ref 83),(.type "object")],ns:=82,qualname:=(N "Whitespace"),hasDict:=true,slotNames:=[],subclasses:=[],abstract:=false,collection:=none,hasDel:=false}),#[none,none,(some (S "Whitespace" 196)),(some (S "Whitespace" 204)),(some (.builtin "object.__new__")),(some (.bool true))]⟩
noncomputable def pL:Obj:=FI (.type "getset_descriptor") #[(S "__dict__" 290),.ref 83,(.builtin "function.__dict__"),(.builtin "function.__dict__#set")]
noncomputable def pM:Obj:=FI (.type "getset_descriptor") #[(S "__weakref__" 292),.ref 83,(.builtin "ExceptionGroup.__weakref__"),.none]
noncomputable def pN:Obj:=FI (.type "super") #[.ref 83,.ref 83,.ref 83]
noncomputable def pO:Obj:=FI (.type "builtin_function_or_method") #[(.builtin "object.__init_subclass__"),.ref 83]
noncomputable def y0:BT:=K aE (L pG) .nil
noncomputable def y1:BT:=K lJ (L pO) .nil
noncomputable def y2:BT:=K hV (K aA (L pB) .nil) y1
noncomputable def y3 (P:Params):BT:=K (boot_o_7 P) (K aA (K kR (L aA) .nil) y0) y2
noncomputable def y4:BT:=K aA (L aA) .nil
noncomputable def y5:BT:=K lH (L pK) .nil
noncomputable def y6:BT:=K lA (L aE) .nil
noncomputable def y7:BT:=K aA (K gC y4 y5) (K iS y6 (L lM))
noncomputable def y8:BT:=K aA (L pI) .nil
noncomputable def y9:BT:=K kZ (L pD) .nil
noncomputable def y10:BT:=K aA (L pM) .nil
noncomputable def y11:BT:=K lC (L aA) .nil
noncomputable def y12 (P:Params):BT:=K (boot_o_5 P) (K (boot_o_9 P) (K gB (K aE (L oY) .nil) y8) (K aA y9 (L lK))) (K fE (K gF (K kU (L pA) .nil) y10) (K iU y11 (L aE)))
noncomputable def y13:BT:=K lD (L pH) .nil
noncomputable def y14:BT:=K aE (K aA (L oX) .nil) y13
noncomputable def y15:BT:=K aE (L pC) .nil
noncomputable def y16:BT:=K lI (L pL) .nil
noncomputable def y17:BT:=K lB (L pE) .nil
noncomputable def y18:BT:=K aAx (K gE (K kT (L aE) .nil) y16) (K iT y17 (L aA))
noncomputable def y19 (P:Params):BT:=K lE (L (pJ P)) .nil
noncomputable def y20:BT:=K aE (L pN) .nil
noncomputable def y21:BT:=K aA (L pF) .nil
noncomputable def y22 (P:Params):BT:=K (boot_o_6 P) (K (boot_o_10 P) (K aA (K jO (L oZ) .nil) (y19 P)) (K iR y4 (L lL))) (K fF (K aA (K kW (L aA) .nil) y20) (K aA y21 (L lN)))
noncomputable def y23 (P:Params):BT:=K (boot_o_2 P) (K (boot_o_4 P) (K (boot_o_8 P) y14 (K (gG P) y15 (L aA))) y18) (y22 P)
noncomputable def tr2 (P:Params):BT:=K (boot_o_0 P) (K (boot_o_1 P) (K (aAw P) (y3 P) y7) (y12 P)) (y23 P)
noncomputable def aAy (P:Params):Obj:=DI #[E P "__name__" 165 (S "cpy313.dis" 297),E P "__doc__" 166 .none,E P "__package__" 167 .none,E P "__loader__" 168 (.builtin "__main__.__loader__#opaque"),E P "__spec__" 169 .none,E P "__annotations__" 170 (r 6),E P "__builtins__" 171 (r 4),E P "__file__" 173 (S "/claim/cut.py" 172),E P "__cached__" 174 .none,E P "_wall" 193 (r 21),E P "Whitespace" 296 (r 83)] 11
noncomputable def tr3 (P:Params):BT:=K (boot_o_0 P) (K (boot_o_1 P) (K (aAy P) (y3 P) y7) (y12 P)) (y23 P)
noncomputable def aAz (P:Params):Obj:=DI #[E P "__name__" 165 (S "cpy313.dis" 297),E P "__doc__" 166 .none,E P "__package__" 167 .none,E P "__loader__" 168 (.builtin "__main__.__loader__#opaque"),E P "__spec__" 169 .none,E P "__annotations__" 170 (r 6),E P "__builtins__" 171 (r 4),E P "__file__" 173 (S "/claim/cut.py" 172),E P "__cached__" 174 .none,E P "_wall" 193 (r 21),E P "Whitespace" 296 (r 83),E P "COMPILER_FLAG_NAMES" 329 (r 88)] 12
noncomputable def pP:Obj:=DI #[⟨1,(.int 1 299),(S "OPTIMIZED" 300)⟩,⟨2,(.int 2 301),(S "NEWLOCALS" 302)⟩,⟨4,(.int 4 303),(S "VARARGS" 304)⟩,⟨8,(.int 8 305),(S "VARKEYWORDS" 306)⟩,⟨16,(.int 16 307),(S "NESTED" 308)⟩,⟨32,(.int 32 309),(S "GENERATOR" 310)⟩,⟨64,(.int 64 311),(S "NOFREE" 312)⟩,⟨128,(.int 128 313),(S "COROUTINE" 314)⟩,⟨256,(.int 256 315),(S "ITERABLE_COROUTINE" 316)⟩,⟨512,(.int 512 317),(S "ASYNC_GENERATOR" 318)⟩] 10
noncomputable def y24:BT:=K aA (L pP) .nil
noncomputable def y25 (P:Params):BT:=K (gG P) y15 y24
noncomputable def tr4 (P:Params):BT:=K (boot_o_0 P) (K (boot_o_1 P) (K (aAz P) (y3 P) y7) (y12 P)) (K (boot_o_2 P) (K (boot_o_4 P) (K (boot_o_8 P) y14 (y25 P)) y18) (y22 P))
noncomputable def aA0 (P:Params):Obj:=DI #[E P "__name__" 165 (S "cpy313.stringprep" 349),E P "__doc__" 166 .none,E P "__package__" 167 .none,E P "__loader__" 168 (.builtin "__main__.__loader__#opaque"),E P "__spec__" 169 .none,E P "__annotations__" 170 (r 6),E P "__builtins__" 171 (r 4),E P "__file__" 173 (S "/claim/cut.py" 172),E P "__cached__" 174 .none,E P "_wall" 193 (r 21),E P "Whitespace" 296 (r 83),E P "COMPILER_FLAG_NAMES" 329 (r 88),E P "pretty_flags" 339 (r 95),E P "_parse_varint" 348 (r 102)] 14
noncomputable def HA:Obj:=FI .none #[i 1,i 0,.ref 20,i 5,i 0,.ref 27,i 60,i 0,.ref 94,i 72,i 0,.ref 101]
noncomputable def rY:Obj:=⟨(.type "tuple"),none,(.seq #[(S "flags" 333),(S "names" 334),(S "i" 335),(S "flag" 336)] 0),#[]⟩
noncomputable def rZ:Obj:=FO .none "pretty_flags" "pretty_flags" (stN 5) 0 .none .none
noncomputable def sA:Obj:=CO "pretty_flags" 330 "pretty_flags" 331 332 60 1 0 0 3 89 true 181 90 .none (.ref 91) (.ref 92) (.ref 93) 337 60 338
noncomputable def sC:Obj:=FO (.type "function") "pretty_flags" "pretty_flags" (stN 5) 3 (S "cpy313.dis" 297) (.ref 94)
noncomputable def pQ:Obj:=⟨(.type "tuple"),none,(.seq #[(S "iterator" 343),(S "b" 344),(S "val" 345)] 0),#[]⟩
noncomputable def sD:Obj:=FO .none "_parse_varint" "_parse_varint" (stN 6) 0 .none .none
noncomputable def sE:Obj:=CO "_parse_varint" 340 "_parse_varint" 341 342 72 1 0 0 3 96 true 181 97 .none (.ref 98) (.ref 99) (.ref 100) 346 72 347
noncomputable def sG:Obj:=FO (.type "function") "_parse_varint" "_parse_varint" (stN 6) 3 (S "cpy313.dis" 297) (.ref 101)
noncomputable def y26:BT:=K kR (L aA) (L sC)
noncomputable def y27:BT:=K aA (L aA) (L aA)
noncomputable def y28:BT:=K gC y27 y5
noncomputable def y29:BT:=K lM (L rY) .nil
noncomputable def y30:BT:=K aE (L oY) (L aE)
noncomputable def y31:BT:=K lK (L aA) .nil
noncomputable def y32:BT:=K kU (L pA) (L sE)
noncomputable def y33:BT:=K gF y32 y10
noncomputable def y34:BT:=K aE (L rZ) .nil
noncomputable def y35:BT:=K aA (L oX) (L aA)
noncomputable def y36:BT:=K kT (L aE) (L sD)
noncomputable def y37:BT:=K gE y36 y16
noncomputable def y38:BT:=K jO (L oZ) (L pQ)
noncomputable def y39 (P:Params):BT:=K aA y38 (y19 P)
noncomputable def y40:BT:=K lL (L aE) .nil
noncomputable def y41:BT:=K kW (L aA) (L sG)
noncomputable def y42:BT:=K aA y41 y20
noncomputable def y43:BT:=K lN (L sA) .nil
noncomputable def tr5 (P:Params):BT:=K (boot_o_0 P) (K (boot_o_1 P) (K (aA0 P) (K (boot_o_7 P) (K aA y26 y0) y2) (K aA y28 (K iS y6 y29))) (K (boot_o_5 P) (K (boot_o_9 P) (K gB y30 y8) (K aA y9 y31)) (K fE y33 (K iU y11 y34)))) (K (boot_o_2 P) (K (boot_o_4 P) (K (boot_o_8 P) (K aE y35 y13) (y25 P)) (K HA y37 (K iT y17 y4))) (K (boot_o_6 P) (K (boot_o_10 P) (y39 P) (K iR y4 y40)) (K fF y42 (K aA y21 y43))))
noncomputable def aA1 (P:Params):Obj:=DI #[E P "__name__" 165 (S "cpy313.stringprep" 349),E P "__doc__" 166 .none,E P "__package__" 167 .none,E P "__loader__" 168 (.builtin "__main__.__loader__#opaque"),E P "__spec__" 169 .none,E P "__annotations__" 170 (r 6),E P "__builtins__" 171 (r 4),E P "__file__" 173 (S "/claim/cut.py" 172),E P "__cached__" 174 .none,E P "_wall" 193 (r 21),E P "Whitespace" 296 (r 83),E P "COMPILER_FLAG_NAMES" 329 (r 88),E P "pretty_flags" 339 (r 95),E P "_parse_varint" 348 (r 102),E P "b1_set" 410 (r 110)] 15
noncomputable def sH:Obj:=⟨(.type "list"),none,(.seq #[(.int 173 351),(.int 847 352),(.int 6150 353),(.int 6155 354),(.int 6156 355),(.int 6157 356),(.int 8203 357),(.int 8204 358),(.int 8205 359),(.int 8288 360),(.int 65279 361)] 0),#[]⟩
noncomputable def sI:Obj:=FI (.type "range") #[(.int 65024 362),(.int 65040 363),(.int 1 364)]
noncomputable def sJ:Obj:=⟨(.type "list"),none,(.seq #[(.int 65024 367),(.int 65025 368),(.int 65026 369),(.int 65027 370),(.int 65028 371),(.int 65029 372),(.int 65030 373),(.int 65031 374),(.int 65032 375),(.int 65033 376),(.int 65034 377),(.int 65035 378),(.int 65036 379),(.int 65037 380),(.int 65038 381),(.int 65039 382)] 18),#[]⟩
noncomputable def sK:Obj:=FI (.type "range_iterator") #[i 65040,i 0,i 1]
noncomputable def sL:Obj:=FI (.type "StopIteration") #[.ref 107,.none,.none,.none,(.bool false),.none]
noncomputable def sM:Obj:=⟨(.type "list"),none,(.seq #[(.int 173 351),(.int 847 352),(.int 6150 353),(.int 6155 354),(.int 6156 355),(.int 6157 356),(.int 8203 357),(.int 8204 358),(.int 8205 359),(.int 8288 360),(.int 65279 361),(.int 65024 367),(.int 65025 368),(.int 65026 369),(.int 65027 370),(.int 65028 371),(.int 65029 372),(.int 65030 373),(.int 65031 374),(.int 65032 375),(.int 65033 376),(.int 65034 377),(.int 65035 378),(.int 65036 379),(.int 65037 380),(.int 65038 381),(.int 65039 382)] 0),#[]⟩
noncomputable def sN (P:Params):Obj:=⟨(.type "set"),none,(.set #[(65024,(.int 65024 367)),(65025,(.int 65025 368)),(65026,(.int 65026 369)),(65027,(.int 65027 370)),(65028,(.int 65028 371)),(65029,(.int 65029 372)),(6150,(.int 6150 353)),(65030,(.int 65030 373)),(65031,(.int 65031 374)),(65032,(.int 65032 375)),(65033,(.int 65033 376)),(6155,(.int 6155 354)),(6156,(.int 6156 355)),(6157,(.int 6157 356)),(8203,(.int 8203 357)),(8204,(.int 8204 358)),(8205,(.int 8205 359)),(65034,(.int 65034 377)),(65035,(.int 65035 378)),(65036,(.int 65036 379)),(65037,(.int 65037 380)),(65038,(.int 65038 381)),(65039,(.int 65039 382)),(173,(.int 173 351)),(847,(.int 847 352)),(8288,(.int 8288 360)),(65279,(.int 65279 361))] 29 {mask:=127,place:=#[0,1,2,3,4,5,6,7,8,9,10,11,12,13,14,15,16,17,18,19,20,21,22,45,79,96,127],dummies:=#[],finger:=0,led:=!P.followText "set-order",moves:=2,plain:=true}),#[]⟩
noncomputable def sO:Obj:=FI (.type "list_iterator") #[.none,i 27]
noncomputable def sP:Obj:=FI (.type "StopIteration") #[.ref 112,.none,.none,.none,(.bool false),.none]
noncomputable def y44:BT:=K aA y26 (K aE (L pG) (L sO))
noncomputable def y45:BT:=K aA (L pB) (L sH)
noncomputable def y46:BT:=K iS (K lA (L aE) (L aA)) y29
noncomputable def y47 (P:Params):BT:=K (boot_o_9 P) (K gB y30 (K aA (L pI) (L sP))) (K aA (K kZ (L pD) (L sJ)) y31)
noncomputable def y48:BT:=K iU (K lC (L aA) (L sM)) y34
noncomputable def y49:BT:=K aE y35 (K lD (L pH) (L aA))
noncomputable def y50:BT:=K aE (L pC) (L sI)
noncomputable def y51:BT:=K iT (K lB (L pE) (L sL)) y4
noncomputable def y52:BT:=K iR (K aA (L aA) (L sK)) y40
noncomputable def y53 (P:Params):BT:=K aA (K aA (L pF) (L (sN P))) y43
noncomputable def tr6 (P:Params):BT:=K (boot_o_0 P) (K (boot_o_1 P) (K (aA1 P) (K (boot_o_7 P) y44 (K hV y45 y1)) (K aA y28 y46)) (K (boot_o_5 P) (y47 P) (K fE y33 y48))) (K (boot_o_2 P) (K (boot_o_4 P) (K (boot_o_8 P) y49 (K (gG P) y50 y24)) (K HA y37 y51)) (K (boot_o_6 P) (K (boot_o_10 P) (y39 P) y52) (K fF y42 (y53 P))))
noncomputable def aA2 (P:Params):Obj:=DI #[E P "__name__" 165 (S "cpy313.stringprep" 349),E P "__doc__" 166 .none,E P "__package__" 167 .none,E P "__loader__" 168 (.builtin "__main__.__loader__#opaque"),E P "__spec__" 169 .none,E P "__annotations__" 170 (r 6),E P "__builtins__" 171 (r 4),E P "__file__" 173 (S "/claim/cut.py" 172),E P "__cached__" 174 .none,E P "_wall" 193 (r 21),E P "Whitespace" 296 (r 83),E P "COMPILER_FLAG_NAMES" 329 (r 88),E P "pretty_flags" 339 (r 95),E P "_parse_varint" 348 (r 102),E P "b1_set" 410 (r 110),E P "in_table_b1" 417 (r 120)] 16
noncomputable def HB:Obj:=FI .none #[i 1,i 0,.ref 20,i 5,i 0,.ref 27,i 60,i 0,.ref 94,i 72,i 0,.ref 101,i 82,i 0,.ref 119]
noncomputable def sQ:Obj:=⟨(.type "tuple"),none,(.seq #[(S "code" 414)] 0),#[]⟩
noncomputable def sR:Obj:=FO .none "in_table_b1" "in_table_b1" (stN 9) 0 .none .none
noncomputable def sS:Obj:=CO "in_table_b1" 411 "in_table_b1" 412 413 82 1 0 0 3 114 true 181 115 .none (.ref 116) (.ref 117) (.ref 118) 415 82 416
noncomputable def sT:Obj:=FO (.type "function") "in_table_b1" "in_table_b1" (stN 9) 3 (S "cpy313.stringprep" 349) (.ref 119)
noncomputable def tr7 (P:Params):BT:=K (boot_o_0 P) (K (boot_o_1 P) (K (aA2 P) (K (boot_o_7 P) y44 (K hV y45 (K lJ (L pO) (L sS)))) (K aA (K gC y27 (K lH (L pK) (L aE))) y46)) (K (boot_o_5 P) (y47 P) (K fE (K gF y32 (K aA (L pM) (L aA))) y48))) (K (boot_o_2 P) (K (boot_o_4 P) (K (boot_o_8 P) y49 (K (gG P) y50 (K aA (L pP) (L sT)))) (K HB (K gE y36 (K lI (L pL) (L sQ))) y51)) (K (boot_o_6 P) (K (boot_o_10 P) (K aA y38 (K lE (L (pJ P)) (L aA))) y52) (K fF (K aA y41 (K aE (L pN) (L sR))) (y53 P))))
noncomputable def aA3 (P:Params):Obj:=DI #[E P "__name__" 165 (S "cpy313.stringprep" 349),E P "__doc__" 166 .none,E P "__package__" 167 .none,E P "__loader__" 168 (.builtin "__main__.__loader__#opaque"),E P "__spec__" 169 .none,E P "__annotations__" 170 (r 6),E P "__builtins__" 171 (r 4),E P "__file__" 173 (S "/claim/cut.py" 172),E P "__cached__" 174 .none,E P "_wall" 193 (r 21),E P "Whitespace" 296 (r 83),E P "COMPILER_FLAG_NAMES" 329 (r 88),E P "pretty_flags" 339 (r 95),E P "_parse_varint" 348 (r 102),E P "b1_set" 410 (r 110),E P "in_table_b1" 417 (r 120),E P "b3_exceptions" 2368 (r 121)] 17
noncomputable def y54:BT:=K sC (L (b3o 38)) .nil
noncomputable def y55:BT:=K pG (L (b3o 22)) .nil
noncomputable def y56:BT:=K aA (K kR (K aA (L (b3o 6)) .nil) y54) (K aE y55 (L sO))
noncomputable def y57:BT:=K pB (L (b3o 14)) .nil
noncomputable def y58:BT:=K pO (L (b3o 30)) .nil
noncomputable def y59:BT:=K lJ y58 (L sS)
noncomputable def y60 (P:Params):BT:=K (boot_o_7 P) y56 (K hV (K aA y57 (L sH)) y59)
noncomputable def y61:BT:=K aA (L (b3o 10)) .nil
noncomputable def y62:BT:=K pK (L (b3o 26)) .nil
noncomputable def y63:BT:=K lH y62 (L aE)
noncomputable def y64:BT:=K aE (L (b3o 18)) .nil
noncomputable def y65:BT:=K rY (L (b3o 34)) .nil
noncomputable def y66:BT:=K iS (K lA y64 (L aA)) (K lM y65 (L (b3o 2)))
noncomputable def y67:BT:=K oY (L (b3o 8)) .nil
noncomputable def y68:BT:=K pI (L (b3o 24)) .nil
noncomputable def y69:BT:=K aA y68 (L sP)
noncomputable def y70:BT:=K pD (L (b3o 16)) .nil
noncomputable def y71:BT:=K aA (L (b3o 32)) .nil
noncomputable def y72:BT:=K lK y71 (L (b3o 0))
noncomputable def y73:BT:=K aA (K kZ y70 (L sJ)) y72
noncomputable def y74:BT:=K pA (L (b3o 12)) .nil
noncomputable def y75:BT:=K pM (L (b3o 28)) .nil
noncomputable def y76:BT:=K aA y75 (L aA)
noncomputable def y77:BT:=K aA (L (b3o 20)) .nil
noncomputable def y78:BT:=K rZ (L (b3o 36)) .nil
noncomputable def y79:BT:=K iU (K lC y77 (L sM)) (K aE y78 (L (b3o 4)))
noncomputable def y80:BT:=K oX (L (b3o 7)) .nil
noncomputable def y81:BT:=K pH (L (b3o 23)) .nil
noncomputable def y82:BT:=K lD y81 (L aA)
noncomputable def y83:BT:=K pC (L (b3o 15)) .nil
noncomputable def y84:BT:=K pP (L (b3o 31)) .nil
noncomputable def y85:BT:=K aA y84 (L sT)
noncomputable def y86 (P:Params):BT:=K (gG P) (K aE y83 (L sI)) y85
noncomputable def y87:BT:=K aE (L (b3o 11)) .nil
noncomputable def y88:BT:=K pL (L (b3o 27)) .nil
noncomputable def y89:BT:=K lI y88 (L sQ)
noncomputable def y90:BT:=K pE (L (b3o 19)) .nil
noncomputable def y91:BT:=K aA (L (b3o 35)) .nil
noncomputable def y92:BT:=K iT (K lB y90 (L sL)) (K aA y91 (L (b3o 3)))
noncomputable def y93:BT:=K oZ (L (b3o 9)) .nil
noncomputable def y94 (P:Params):BT:=K (pJ P) (L (b3o 25)) .nil
noncomputable def y95 (P:Params):BT:=K lE (y94 P) (L aA)
noncomputable def y96:BT:=K aA (L (b3o 17)) .nil
noncomputable def y97:BT:=K aE (L (b3o 33)) .nil
noncomputable def y98:BT:=K iR (K aA y96 (L sK)) (K lL y97 (L (b3o 1)))
noncomputable def y99:BT:=K aA (L (b3o 13)) .nil
noncomputable def HC:BT:=K pN (L (b3o 29)) .nil
noncomputable def HD:BT:=K aE HC (L sR)
noncomputable def HE:BT:=K pF (L (b3o 21)) .nil
noncomputable def HF:BT:=K sA (L (b3o 37)) .nil
noncomputable def HG (P:Params):BT:=K aA (K aA HE (L (sN P))) (K lN HF (L (b3o 5)))
noncomputable def tr8 (P:Params):BT:=K (boot_o_0 P) (K (boot_o_1 P) (K (aA3 P) (y60 P) (K aA (K gC (K aA y61 (L aA)) y63) y66)) (K (boot_o_5 P) (K (boot_o_9 P) (K gB (K aE y67 (L aE)) y69) y73) (K fE (K gF (K kU y74 (L sE)) y76) y79))) (K (boot_o_2 P) (K (boot_o_4 P) (K (boot_o_8 P) (K aE (K aA y80 (L aA)) y82) (y86 P)) (K HB (K gE (K kT y87 (L sD)) y89) y92)) (K (boot_o_6 P) (K (boot_o_10 P) (K aA (K jO y93 (L pQ)) (y95 P)) y98) (K fF (K aA (K kW y99 (L sG)) HD) (HG P))))
noncomputable def aA4 (P:Params):Obj:=DI #[E P "__name__" 165 (S "cpy313.token" 2377),E P "__doc__" 166 .none,E P "__package__" 167 .none,E P "__loader__" 168 (.builtin "__main__.__loader__#opaque"),E P "__spec__" 169 .none,E P "__annotations__" 170 (r 6),E P "__builtins__" 171 (r 4),E P "__file__" 173 (S "/claim/cut.py" 172),E P "__cached__" 174 .none,E P "_wall" 193 (r 21),E P "Whitespace" 296 (r 83),E P "COMPILER_FLAG_NAMES" 329 (r 88),E P "pretty_flags" 339 (r 95),E P "_parse_varint" 348 (r 102),E P "b1_set" 410 (r 110),E P "in_table_b1" 417 (r 120),E P "b3_exceptions" 2368 (r 121),E P "map_table_b3" 2376 (r 166),E P "ENDMARKER" 2380 (.int 0 2379),E P "LPAR" 2382 (.int 7 2381),E P "RPAR" 2384 (.int 8 2383),E P "LSQB" 2386 (.int 9 2385),E P "RSQB" 2388 (.int 10 2387),E P "COLON" 2390 (.int 11 2389),E P "COMMA" 2392 (.int 12 2391),E P "SEMI" 2394 (.int 13 2393),E P "PLUS" 2396 (.int 14 2395),E P "MINUS" 2398 (.int 15 2397)] 28
noncomputable def aA5:Obj:=FI .none #[i 1,i 0,.ref 20,i 5,i 0,.ref 27,i 60,i 0,.ref 94,i 72,i 0,.ref 101,i 82,i 0,.ref 119,i 85,i 0,.ref 165]
noncomputable def uS:Obj:=⟨(.type "tuple"),none,(.seq #[(S "code" 2372),(S "r" 2373)] 0),#[]⟩
noncomputable def yZ:Obj:=FO .none "map_table_b3" "map_table_b3" (stN 11) 0 .none .none
noncomputable def zA:Obj:=CO "map_table_b3" 2369 "map_table_b3" 2370 2371 85 1 0 0 3 160 true 181 161 .none (.ref 162) (.ref 163) (.ref 164) 2374 85 2375
noncomputable def zB:Obj:=FO (.type "function") "map_table_b3" "map_table_b3" (stN 11) 3 (S "cpy313.stringprep" 349) (.ref 165)
noncomputable def sU:BT:=K aA (K gC (K aA y61 y4) y63) y66
noncomputable def HH:BT:=K aE (L aE) .nil
noncomputable def HI:BT:=K gB (K aE y67 HH) y69
noncomputable def HJ:BT:=K sE (L zA) .nil
noncomputable def HK:BT:=K fE (K gF (K kU y74 HJ) y76) y79
noncomputable def uT (P:Params):BT:=K (boot_o_5 P) (K (boot_o_9 P) HI y73) HK
noncomputable def HL:BT:=K aE (K aA y80 y4) y82
noncomputable def HM:BT:=K sD (L yZ) .nil
noncomputable def HO:BT:=K aA5 (K gE (K kT y87 HM) y89) y92
noncomputable def HP:BT:=K pQ (L uS) .nil
noncomputable def HQ:BT:=K sG (L zB) .nil
noncomputable def HR:BT:=K kW y99 HQ
noncomputable def HS (P:Params):BT:=K (boot_o_6 P) (K (boot_o_10 P) (K aA (K jO y93 HP) (y95 P)) y98) (K fF (K aA HR HD) (HG P))
noncomputable def uU (P:Params):BT:=K (boot_o_2 P) (K (boot_o_4 P) (K (boot_o_8 P) HL (y86 P)) HO) (HS P)
noncomputable def tr9 (P:Params):BT:=K (boot_o_0 P) (K (boot_o_1 P) (K (aA4 P) (y60 P) sU) (uT P)) (uU P)
noncomputable def aA6 (P:Params):Obj:=DI #[E P "__name__" 165 (S "cpy313.token" 2377),E P "__doc__" 166 .none,E P "__package__" 167 .none,E P "__loader__" 168 (.builtin "__main__.__loader__#opaque"),E P "__spec__" 169 .none,E P "__annotations__" 170 (r 6),E P "__builtins__" 171 (r 4),E P "__file__" 173 (S "/claim/cut.py" 172),E P "__cached__" 174 .none,E P "_wall" 193 (r 21),E P "Whitespace" 296 (r 83),E P "COMPILER_FLAG_NAMES" 329 (r 88),E P "pretty_flags" 339 (r 95),E P "_parse_varint" 348 (r 102),E P "b1_set" 410 (r 110),E P "in_table_b1" 417 (r 120),E P "b3_exceptions" 2368 (r 121),E P "map_table_b3" 2376 (r 166),E P "ENDMARKER" 2380 (.int 0 2379),E P "LPAR" 2382 (.int 7 2381),E P "RPAR" 2384 (.int 8 2383),E P "LSQB" 2386 (.int 9 2385),E P "RSQB" 2388 (.int 10 2387),E P "COLON" 2390 (.int 11 2389),E P "COMMA" 2392 (.int 12 2391),E P "SEMI" 2394 (.int 13 2393),E P "PLUS" 2396 (.int 14 2395),E P "MINUS" 2398 (.int 15 2397),E P "STAR" 2400 (.int 16 2399),E P "SLASH" 2402 (.int 17 2401),E P "VBAR" 2404 (.int 18 2403),E P "AMPER" 2406 (.int 19 2405),E P "LESS" 2408 (.int 20 2407),E P "GREATER" 2410 (.int 21 2409),E P "EQUAL" 2412 (.int 22 2411),E P "DOT" 2414 (.int 23 2413),E P "PERCENT" 2416 (.int 24 2415),E P "LBRACE" 2418 (.int 25 2417),E P "RBRACE" 2420 (.int 26 2419),E P "EQEQUAL" 2422 (.int 27 2421),E P "NOTEQUAL" 2424 (.int 28 2423),E P "LESSEQUAL" 2426 (.int 29 2425)] 42
noncomputable def HT (P:Params):BT:=K (boot_o_0 P) (K (boot_o_1 P) (K (aA6 P) (y60 P) sU) (uT P)) (uU P)
noncomputable def aA7 (P:Params):Obj:=DI #[E P "__name__" 165 (S "cpy313.token" 2377),E P "__doc__" 166 .none,E P "__package__" 167 .none,E P "__loader__" 168 (.builtin "__main__.__loader__#opaque"),E P "__spec__" 169 .none,E P "__annotations__" 170 (r 6),E P "__builtins__" 171 (r 4),E P "__file__" 173 (S "/claim/cut.py" 172),E P "__cached__" 174 .none,E P "_wall" 193 (r 21),E P "Whitespace" 296 (r 83),E P "COMPILER_FLAG_NAMES" 329 (r 88),E P "pretty_flags" 339 (r 95),E P "_parse_varint" 348 (r 102),E P "b1_set" 410 (r 110),E P "in_table_b1" 417 (r 120),E P "b3_exceptions" 2368 (r 121),E P "map_table_b3" 2376 (r 166),E P "ENDMARKER" 2380 (.int 0 2379),E P "LPAR" 2382 (.int 7 2381),E P "RPAR" 2384 (.int 8 2383),E P "LSQB" 2386 (.int 9 2385),E P "RSQB" 2388 (.int 10 2387),E P "COLON" 2390 (.int 11 2389),E P "COMMA" 2392 (.int 12 2391),E P "SEMI" 2394 (.int 13 2393),E P "PLUS" 2396 (.int 14 2395),E P "MINUS" 2398 (.int 15 2397),E P "STAR" 2400 (.int 16 2399),E P "SLASH" 2402 (.int 17 2401),E P "VBAR" 2404 (.int 18 2403),E P "AMPER" 2406 (.int 19 2405),E P "LESS" 2408 (.int 20 2407),E P "GREATER" 2410 (.int 21 2409),E P "EQUAL" 2412 (.int 22 2411),E P "DOT" 2414 (.int 23 2413),E P "PERCENT" 2416 (.int 24 2415),E P "LBRACE" 2418 (.int 25 2417),E P "RBRACE" 2420 (.int 26 2419),E P "EQEQUAL" 2422 (.int 27 2421),E P "NOTEQUAL" 2424 (.int 28 2423),E P "LESSEQUAL" 2426 (.int 29 2425),E P "GREATEREQUAL" 2428 (.int 30 2427),E P "TILDE" 2430 (.int 31 2429),E P "CIRCUMFLEX" 2432 (.int 32 2431),E P "LEFTSHIFT" 2434 (.int 33 2433),E P "RIGHTSHIFT" 2436 (.int 34 2435),E P "DOUBLESTAR" 2438 (.int 35 2437),E P "PLUSEQUAL" 2440 (.int 36 2439),E P "MINEQUAL" 2442 (.int 37 2441),E P "STAREQUAL" 2444 (.int 38 2443),E P "SLASHEQUAL" 2446 (.int 39 2445),E P "PERCENTEQUAL" 2448 (.int 40 2447),E P "AMPEREQUAL" 2450 (.int 41 2449),E P "VBAREQUAL" 2452 (.int 42 2451),E P "CIRCUMFLEXEQUAL" 2454 (.int 43 2453)] 56
noncomputable def HU (P:Params):BT:=K (boot_o_0 P) (K (boot_o_1 P) (K (aA7 P) (y60 P) sU) (uT P)) (uU P)
noncomputable def aA8 (P:Params):Obj:=DI #[E P "__name__" 165 (S "cpy313.token" 2377),E P "__doc__" 166 .none,E P "__package__" 167 .none,E P "__loader__" 168 (.builtin "__main__.__loader__#opaque"),E P "__spec__" 169 .none,E P "__annotations__" 170 (r 6),E P "__builtins__" 171 (r 4),E P "__file__" 173 (S "/claim/cut.py" 172),E P "__cached__" 174 .none,E P "_wall" 193 (r 21),E P "Whitespace" 296 (r 83),E P "COMPILER_FLAG_NAMES" 329 (r 88),E P "pretty_flags" 339 (r 95),E P "_parse_varint" 348 (r 102),E P "b1_set" 410 (r 110),E P "in_table_b1" 417 (r 120),E P "b3_exceptions" 2368 (r 121),E P "map_table_b3" 2376 (r 166),E P "ENDMARKER" 2380 (.int 0 2379),E P "LPAR" 2382 (.int 7 2381),E P "RPAR" 2384 (.int 8 2383),E P "LSQB" 2386 (.int 9 2385),E P "RSQB" 2388 (.int 10 2387),E P "COLON" 2390 (.int 11 2389),E P "COMMA" 2392 (.int 12 2391),E P "SEMI" 2394 (.int 13 2393),E P "PLUS" 2396 (.int 14 2395),E P "MINUS" 2398 (.int 15 2397),E P "STAR" 2400 (.int 16 2399),E P "SLASH" 2402 (.int 17 2401),E P "VBAR" 2404 (.int 18 2403),E P "AMPER" 2406 (.int 19 2405),E P "LESS" 2408 (.int 20 2407),E P "GREATER" 2410 (.int 21 2409),E P "EQUAL" 2412 (.int 22 2411),E P "DOT" 2414 (.int 23 2413),E P "PERCENT" 2416 (.int 24 2415),E P "LBRACE" 2418 (.int 25 2417),E P "RBRACE" 2420 (.int 26 2419),E P "EQEQUAL" 2422 (.int 27 2421),E P "NOTEQUAL" 2424 (.int 28 2423),E P "LESSEQUAL" 2426 (.int 29 2425),E P "GREATEREQUAL" 2428 (.int 30 2427),E P "TILDE" 2430 (.int 31 2429),E P "CIRCUMFLEX" 2432 (.int 32 2431),E P "LEFTSHIFT" 2434 (.int 33 2433),E P "RIGHTSHIFT" 2436 (.int 34 2435),E P "DOUBLESTAR" 2438 (.int 35 2437),E P "PLUSEQUAL" 2440 (.int 36 2439),E P "MINEQUAL" 2442 (.int 37 2441),E P "STAREQUAL" 2444 (.int 38 2443),E P "SLASHEQUAL" 2446 (.int 39 2445),E P "PERCENTEQUAL" 2448 (.int 40 2447),E P "AMPEREQUAL" 2450 (.int 41 2449),E P "VBAREQUAL" 2452 (.int 42 2451),E P "CIRCUMFLEXEQUAL" 2454 (.int 43 2453),E P "LEFTSHIFTEQUAL" 2456 (.int 44 2455),E P "RIGHTSHIFTEQUAL" 2458 (.int 45 2457),E P "DOUBLESTAREQUAL" 2460 (.int 46 2459),E P "DOUBLESLASH" 2462 (.int 47 2461),E P "DOUBLESLASHEQUAL" 2464 (.int 48 2463),E P "AT" 2466 (.int 49 2465),E P "ATEQUAL" 2468 (.int 50 2467),E P "RARROW" 2470 (.int 51 2469),E P "ELLIPSIS" 2472 (.int 52 2471),E P "COLONEQUAL" 2474 (.int 53 2473),E P "EXCLAMATION" 2476 (.int 54 2475),E P "OP" 2478 (.int 55 2477),E P "NT_OFFSET" 2480 (.int 256 2479)] 69
noncomputable def HV (P:Params):BT:=K (boot_o_0 P) (K (boot_o_1 P) (K (aA8 P) (y60 P) sU) (uT P)) (uU P)
noncomputable def aA9 (P:Params):Obj:=DI #[E P "__name__" 165 (S "cpy313.token" 2377),E P "__doc__" 166 .none,E P "__package__" 167 .none,E P "__loader__" 168 (.builtin "__main__.__loader__#opaque"),E P "__spec__" 169 .none,E P "__annotations__" 170 (r 6),E P "__builtins__" 171 (r 4),E P "__file__" 173 (S "/claim/cut.py" 172),E P "__cached__" 174 .none,E P "_wall" 193 (r 21),E P "Whitespace" 296 (r 83),E P "COMPILER_FLAG_NAMES" 329 (r 88),E P "pretty_flags" 339 (r 95),E P "_parse_varint" 348 (r 102),E P "b1_set" 410 (r 110),E P "in_table_b1" 417 (r 120),E P "b3_exceptions" 2368 (r 121),E P "map_table_b3" 2376 (r 166),E P "ENDMARKER" 2380 (.int 0 2379),E P "LPAR" 2382 (.int 7 2381),E P "RPAR" 2384 (.int 8 2383),E P "LSQB" 2386 (.int 9 2385),E P "RSQB" 2388 (.int 10 2387),E P "COLON" 2390 (.int 11 2389),E P "COMMA" 2392 (.int 12 2391),E P "SEMI" 2394 (.int 13 2393),E P "PLUS" 2396 (.int 14 2395),E P "MINUS" 2398 (.int 15 2397),E P "STAR" 2400 (.int 16 2399),E P "SLASH" 2402 (.int 17 2401),E P "VBAR" 2404 (.int 18 2403),E P "AMPER" 2406 (.int 19 2405),E P "LESS" 2408 (.int 20 2407),E P "GREATER" 2410 (.int 21 2409),E P "EQUAL" 2412 (.int 22 2411),E P "DOT" 2414 (.int 23 2413),E P "PERCENT" 2416 (.int 24 2415),E P "LBRACE" 2418 (.int 25 2417),E P "RBRACE" 2420 (.int 26 2419),E P "EQEQUAL" 2422 (.int 27 2421),E P "NOTEQUAL" 2424 (.int 28 2423),E P "LESSEQUAL" 2426 (.int 29 2425),E P "GREATEREQUAL" 2428 (.int 30 2427),E P "TILDE" 2430 (.int 31 2429),E P "CIRCUMFLEX" 2432 (.int 32 2431),E P "LEFTSHIFT" 2434 (.int 33 2433),E P "RIGHTSHIFT" 2436 (.int 34 2435),E P "DOUBLESTAR" 2438 (.int 35 2437),E P "PLUSEQUAL" 2440 (.int 36 2439),E P "MINEQUAL" 2442 (.int 37 2441),E P "STAREQUAL" 2444 (.int 38 2443),E P "SLASHEQUAL" 2446 (.int 39 2445),E P "PERCENTEQUAL" 2448 (.int 40 2447),E P "AMPEREQUAL" 2450 (.int 41 2449),E P "VBAREQUAL" 2452 (.int 42 2451),E P "CIRCUMFLEXEQUAL" 2454 (.int 43 2453),E P "LEFTSHIFTEQUAL" 2456 (.int 44 2455),E P "RIGHTSHIFTEQUAL" 2458 (.int 45 2457),E P "DOUBLESTAREQUAL" 2460 (.int 46 2459),E P "DOUBLESLASH" 2462 (.int 47 2461),E P "DOUBLESLASHEQUAL" 2464 (.int 48 2463),E P "AT" 2466 (.int 49 2465),E P "ATEQUAL" 2468 (.int 50 2467),E P "RARROW" 2470 (.int 51 2469),E P "ELLIPSIS" 2472 (.int 52 2471),E P "COLONEQUAL" 2474 (.int 53 2473),E P "EXCLAMATION" 2476 (.int 54 2475),E P "OP" 2478 (.int 55 2477),E P "NT_OFFSET" 2480 (.int 256 2479),E P "EXACT_TOKEN_TYPES" 2577 (r 167)] 70
noncomputable def zC (P:Params):Obj:=DI #[E P "!" 2481 (.int 54 2475),E P "!=" 2483 (.int 28 2423),E P "%" 2485 (.int 24 2415),E P "%=" 2487 (.int 40 2447),E P "&" 2489 (.int 19 2405),E P "&=" 2491 (.int 41 2449),(E P "(" 2493 (.int 7 2381)),(E P ")" 2495 (.int 8 2383)),E P "*" 2497 (.int 16 2399),E P "**" 2499 (.int 35 2437),E P "**=" 2501 (.int 46 2459),E P "*=" 2503 (.int 38 2443),E P "+" 2505 (.int 14 2395),E P "+=" 2507 (.int 36 2439),E P "," 2509 (.int 12 2391),E P "-" 2511 (.int 15 2397),E P "-=" 2513 (.int 37 2441),E P "->" 2515 (.int 51 2469),E P "." 2517 (.int 23 2413),E P "..." 2519 (.int 52 2471),E P "/" 2521 (.int 17 2401),E P "//" 2523 (.int 47 2461),E P "//=" 2525 (.int 48 2463),E P "/=" 2527 (.int 39 2445),E P ":" 2529 (.int 11 2389),E P ":=" 2531 (.int 53 2473),E P ";" 2533 (.int 13 2393),E P "<" 2535 (.int 20 2407),E P "<<" 2537 (.int 33 2433),E P "<<=" 2539 (.int 44 2455),E P "<=" 2541 (.int 29 2425),E P "=" 2543 (.int 22 2411),E P "==" 2545 (.int 27 2421),E P ">" 2547 (.int 21 2409),E P ">=" 2549 (.int 30 2427),E P ">>" 2550 (.int 34 2435),E P ">>=" 2551 (.int 45 2457),E P "@" 2552 (.int 49 2465),E P "@=" 2553 (.int 50 2467),E P "[" 2554 (.int 9 2385),E P "]" 2555 (.int 10 2387),E P "^" 2556 (.int 32 2431),E P "^=" 2557 (.int 43 2453),E P "{" 2558 (.int 25 2417),E P "|" 2559 (.int 18 2403),E P "|=" 2560 (.int 42 2451),E P "}" 2561 (.int 26 2419),E P "~" 2562 (.int 31 2429)] 48
noncomputable def zD (P:Params):Obj:=DI #[E P "->" 2515 (.int 51 2469),E P "." 2517 (.int 23 2413),E P "..." 2519 (.int 52 2471),E P "/" 2521 (.int 17 2401),E P "//" 2523 (.int 47 2461),E P "//=" 2525 (.int 48 2463),E P "/=" 2527 (.int 39 2445),E P ":" 2529 (.int 11 2389),E P ":=" 2531 (.int 53 2473),E P ";" 2533 (.int 13 2393),E P "<" 2535 (.int 20 2407),E P "<<" 2537 (.int 33 2433),E P "<<=" 2539 (.int 44 2455),E P "<=" 2541 (.int 29 2425),E P "=" 2543 (.int 22 2411),E P "==" 2545 (.int 27 2421),E P ">" 2547 (.int 21 2409)] 17
noncomputable def zE (P:Params):Obj:=DI #[E P ">=" 2549 (.int 30 2427),E P ">>" 2550 (.int 34 2435),E P ">>=" 2551 (.int 45 2457),E P "@" 2552 (.int 49 2465),E P "@=" 2553 (.int 50 2467),E P "[" 2554 (.int 9 2385),E P "]" 2555 (.int 10 2387),E P "^" 2556 (.int 32 2431),E P "^=" 2557 (.int 43 2453),E P "{" 2558 (.int 25 2417),E P "|" 2559 (.int 18 2403),E P "|=" 2560 (.int 42 2451),E P "}" 2561 (.int 26 2419),E P "~" 2562 (.int 31 2429)] 14
noncomputable def HW (P:Params):BT:=K sH (L (zC P)) .nil
noncomputable def HX (P:Params):BT:=K aA y57 (HW P)
noncomputable def HY (P:Params):BT:=K sJ (L (zE P)) .nil
noncomputable def HZ (P:Params):BT:=K kZ y70 (HY P)
noncomputable def IA (P:Params):BT:=K sI (L (zD P)) .nil
noncomputable def IB (P:Params):BT:=K aE y83 (IA P)
noncomputable def IC (P:Params):BT:=K (boot_o_0 P) (K (boot_o_1 P) (K (aA9 P) (K (boot_o_7 P) y56 (K hV (HX P) y59)) sU) (K (boot_o_5 P) (K (boot_o_9 P) HI (K aA (HZ P) y72)) HK)) (K (boot_o_2 P) (K (boot_o_4 P) (K (boot_o_8 P) HL (K (gG P) (IB P) y85)) HO) (HS P))
noncomputable def aAA (P:Params):Obj:=DI #[E P "__name__" 165 (S "law_sr0089_01" 2599),E P "__doc__" 166 .none,E P "__package__" 167 .none,E P "__loader__" 168 (.builtin "__main__.__loader__#opaque"),E P "__spec__" 169 .none,E P "__annotations__" 170 (r 6),E P "__builtins__" 171 (r 4),E P "__file__" 173 (S "/claim/cut.py" 172),E P "__cached__" 174 .none,E P "_wall" 193 (r 21),E P "Whitespace" 296 (r 83),E P "COMPILER_FLAG_NAMES" 329 (r 88),E P "pretty_flags" 339 (r 95),E P "_parse_varint" 348 (r 102),E P "b1_set" 410 (r 110),E P "in_table_b1" 417 (r 120),E P "b3_exceptions" 2368 (r 121),E P "map_table_b3" 2376 (r 166),E P "ENDMARKER" 2380 (.int 0 2379),E P "LPAR" 2382 (.int 7 2381),E P "RPAR" 2384 (.int 8 2383),E P "LSQB" 2386 (.int 9 2385),E P "RSQB" 2388 (.int 10 2387),E P "COLON" 2390 (.int 11 2389),E P "COMMA" 2392 (.int 12 2391),E P "SEMI" 2394 (.int 13 2393),E P "PLUS" 2396 (.int 14 2395),E P "MINUS" 2398 (.int 15 2397),E P "STAR" 2400 (.int 16 2399),E P "SLASH" 2402 (.int 17 2401),E P "VBAR" 2404 (.int 18 2403),E P "AMPER" 2406 (.int 19 2405),E P "LESS" 2408 (.int 20 2407),E P "GREATER" 2410 (.int 21 2409),E P "EQUAL" 2412 (.int 22 2411),E P "DOT" 2414 (.int 23 2413),E P "PERCENT" 2416 (.int 24 2415),E P "LBRACE" 2418 (.int 25 2417),E P "RBRACE" 2420 (.int 26 2419),E P "EQEQUAL" 2422 (.int 27 2421),E P "NOTEQUAL" 2424 (.int 28 2423),E P "LESSEQUAL" 2426 (.int 29 2425),E P "GREATEREQUAL" 2428 (.int 30 2427),E P "TILDE" 2430 (.int 31 2429),E P "CIRCUMFLEX" 2432 (.int 32 2431),E P "LEFTSHIFT" 2434 (.int 33 2433),E P "RIGHTSHIFT" 2436 (.int 34 2435),E P "DOUBLESTAR" 2438 (.int 35 2437),E P "PLUSEQUAL" 2440 (.int 36 2439),E P "MINEQUAL" 2442 (.int 37 2441),E P "STAREQUAL" 2444 (.int 38 2443),E P "SLASHEQUAL" 2446 (.int 39 2445),E P "PERCENTEQUAL" 2448 (.int 40 2447),E P "AMPEREQUAL" 2450 (.int 41 2449),E P "VBAREQUAL" 2452 (.int 42 2451),E P "CIRCUMFLEXEQUAL" 2454 (.int 43 2453),E P "LEFTSHIFTEQUAL" 2456 (.int 44 2455),E P "RIGHTSHIFTEQUAL" 2458 (.int 45 2457),E P "DOUBLESTAREQUAL" 2460 (.int 46 2459),E P "DOUBLESLASH" 2462 (.int 47 2461),E P "DOUBLESLASHEQUAL" 2464 (.int 48 2463),E P "AT" 2466 (.int 49 2465),E P "ATEQUAL" 2468 (.int 50 2467),E P "RARROW" 2470 (.int 51 2469),E P "ELLIPSIS" 2472 (.int 52 2471),E P "COLONEQUAL" 2474 (.int 53 2473),E P "EXCLAMATION" 2476 (.int 54 2475),E P "OP" 2478 (.int 55 2477),E P "NT_OFFSET" 2480 (.int 256 2479),E P "EXACT_TOKEN_TYPES" 2577 (r 167),E P "ISTERMINAL" 2584 (r 176),E P "ISNONTERMINAL" 2591 (r 183),E P "ISEOF" 2598 (r 190),E P "_law_lead" 2608 (r 197)] 74
noncomputable def aAB:Obj:=FI .none #[i 1,i 0,.ref 20,i 5,i 0,.ref 27,i 60,i 0,.ref 94,i 72,i 0,.ref 101,i 82,i 0,.ref 119,i 85,i 0,.ref 165,i 143,i 0,.ref 175,i 145,i 0,.ref 182,i 147,i 0,.ref 189,i 150,i 0,.ref 196]
noncomputable def zF:Obj:=⟨(.type "tuple"),none,(.seq #[(S "x" 2581)] 0),#[]⟩
noncomputable def zG:Obj:=FO .none "ISTERMINAL" "ISTERMINAL" (stN 65) 0 .none .none
noncomputable def zH:Obj:=CO "ISTERMINAL" 2578 "ISTERMINAL" 2579 2580 143 1 0 0 3 170 true 181 171 .none (.ref 172) (.ref 173) (.ref 174) 2582 143 2583
noncomputable def zI:Obj:=FO (.type "function") "ISTERMINAL" "ISTERMINAL" (stN 65) 3 (S "cpy313.token" 2377) (.ref 175)
noncomputable def zJ:Obj:=⟨(.type "tuple"),none,(.seq #[(S "x" 2588)] 0),#[]⟩
noncomputable def zK:Obj:=FO .none "ISNONTERMINAL" "ISNONTERMINAL" (stN 66) 0 .none .none
noncomputable def zL:Obj:=CO "ISNONTERMINAL" 2585 "ISNONTERMINAL" 2586 2587 145 1 0 0 3 177 true 181 178 .none (.ref 179) (.ref 180) (.ref 181) 2589 145 2590
noncomputable def zM:Obj:=FO (.type "function") "ISNONTERMINAL" "ISNONTERMINAL" (stN 66) 3 (S "cpy313.token" 2377) (.ref 182)
noncomputable def zN:Obj:=⟨(.type "tuple"),none,(.seq #[(S "x" 2595)] 0),#[]⟩
noncomputable def zO:Obj:=FO .none "ISEOF" "ISEOF" (stN 67) 0 .none .none
noncomputable def zP:Obj:=CO "ISEOF" 2592 "ISEOF" 2593 2594 147 1 0 0 3 184 true 181 185 .none (.ref 186) (.ref 187) (.ref 188) 2596 147 2597
noncomputable def zQ:Obj:=FO (.type "function") "ISEOF" "ISEOF" (stN 67) 3 (S "cpy313.token" 2377) (.ref 189)
noncomputable def zR:Obj:=⟨(.type "tuple"),none,(.seq #[(S "x" 2604),(S "lead" 2605)] 0),#[]⟩
noncomputable def zS:Obj:=FO .none "_law_lead" "_law_lead" (stN 69) 0 .none .none
noncomputable def zU:Obj:=CO "_law_lead" 2601 "_law_lead" 2602 2603 150 1 0 0 3 191 true 181 192 .none (.ref 193) (.ref 194) (.ref 195) 2606 150 2607
noncomputable def zV:Obj:=FO (.type "function") "_law_lead" "_law_lead" (stN 69) 3 (S "law_sr0089_01" 2599) (.ref 196)
noncomputable def ID:BT:=K aA (L (b3o 6)) (L aA)
noncomputable def IE:BT:=K kR ID y54
noncomputable def IF:BT:=K sO (L zH) .nil
noncomputable def IG:BT:=K sS (L zM) .nil
noncomputable def IH:BT:=K aA (L (b3o 10)) (L zS)
noncomputable def II:BT:=K aA IH y4
noncomputable def IJ:BT:=K aE (L zJ) .nil
noncomputable def uV:BT:=K aA (L aE) .nil
noncomputable def IL:BT:=K (b3o 2) (L aA) .nil
noncomputable def IM:BT:=K oY (L (b3o 8)) (L zR)
noncomputable def IN:BT:=K aE IM HH
noncomputable def IO:BT:=K sP (L aA) .nil
noncomputable def IP:BT:=K (b3o 0) (L aE) .nil
noncomputable def IQ:BT:=K pA (L (b3o 12)) (L zV)
noncomputable def IS:BT:=K kU IQ HJ
noncomputable def IT:BT:=K aA (L zK) .nil
noncomputable def IU:BT:=K sM (L aA) .nil
noncomputable def IW:BT:=K (b3o 4) (L zP) .nil
noncomputable def IX:BT:=K aE y78 IW
noncomputable def IY:BT:=K oX (L (b3o 7)) (L aE)
noncomputable def IZ:BT:=K aA IY y4
noncomputable def JA:BT:=K aA (L zI) .nil
noncomputable def JB:BT:=K sT (L aA) .nil
noncomputable def JC:BT:=K aE (L (b3o 11)) (L zU)
noncomputable def JD:BT:=K kT JC HM
noncomputable def JE:BT:=K sQ (L aA) .nil
noncomputable def JF:BT:=K sL (L zF) .nil
noncomputable def JG:BT:=K (b3o 3) (L zO) .nil
noncomputable def JH:BT:=K aA y91 JG
noncomputable def JI:BT:=K oZ (L (b3o 9)) (L aA)
noncomputable def JJ:BT:=K jO JI HP
noncomputable def JK:BT:=K sK (L aA) .nil
noncomputable def JL:BT:=K (b3o 1) (L zN) .nil
noncomputable def JM:BT:=K sR (L zL) .nil
noncomputable def JN (P:Params):BT:=K (sN P) (L zG) .nil
noncomputable def JO:BT:=K (b3o 5) (L zQ) .nil
noncomputable def JP:BT:=K lN HF JO
noncomputable def JQ (P:Params):BT:=K (boot_o_0 P) (K (boot_o_1 P) (K (aAA P) (K (boot_o_7 P) (K aA IE (K aE y55 IF)) (K hV (HX P) (K lJ y58 IG))) (K aA (K gC II (K lH y62 IJ)) (K iS (K lA y64 uV) (K lM y65 IL)))) (K (boot_o_5 P) (K (boot_o_9 P) (K gB IN (K aA y68 IO)) (K aA (HZ P) (K lK y71 IP))) (K fE (K gF IS (K aA y75 IT)) (K iU (K lC y77 IU) IX)))) (K (boot_o_2 P) (K (boot_o_4 P) (K (boot_o_8 P) (K aE IZ (K lD y81 JA)) (K (gG P) (IB P) (K aA y84 JB))) (K aAB (K gE JD (K lI y88 JE)) (K iT (K lB y90 JF) JH))) (K (boot_o_6 P) (K (boot_o_10 P) (K aA JJ (K lE (y94 P) uV)) (K iR (K aA y96 JK) (K lL y97 JL))) (K fF (K aA HR (K aE HC JM)) (K aA (K aA HE (JN P)) JP))))
noncomputable def aAC (P:Params):Obj:=DI #[E P "__name__" 165 (S "law_sr0089_01" 2599),E P "__doc__" 166 .none,E P "__package__" 167 .none,E P "__loader__" 168 (.builtin "__main__.__loader__#opaque"),E P "__spec__" 169 .none,E P "__annotations__" 170 (r 6),E P "__builtins__" 171 (r 4),E P "__file__" 173 (S "/claim/cut.py" 172),E P "__cached__" 174 .none,E P "_wall" 193 (r 21),E P "Whitespace" 296 (r 83),E P "COMPILER_FLAG_NAMES" 329 (r 88),E P "pretty_flags" 339 (r 95),E P "_parse_varint" 348 (r 102),E P "b1_set" 410 (r 110),E P "in_table_b1" 417 (r 120),E P "b3_exceptions" 2368 (r 121),E P "map_table_b3" 2376 (r 166),E P "ENDMARKER" 2380 (.int 0 2379),E P "LPAR" 2382 (.int 7 2381),E P "RPAR" 2384 (.int 8 2383),E P "LSQB" 2386 (.int 9 2385),E P "RSQB" 2388 (.int 10 2387),E P "COLON" 2390 (.int 11 2389),E P "COMMA" 2392 (.int 12 2391),E P "SEMI" 2394 (.int 13 2393),E P "PLUS" 2396 (.int 14 2395),E P "MINUS" 2398 (.int 15 2397),E P "STAR" 2400 (.int 16 2399),E P "SLASH" 2402 (.int 17 2401),E P "VBAR" 2404 (.int 18 2403),E P "AMPER" 2406 (.int 19 2405),E P "LESS" 2408 (.int 20 2407),E P "GREATER" 2410 (.int 21 2409),E P "EQUAL" 2412 (.int 22 2411),E P "DOT" 2414 (.int 23 2413),E P "PERCENT" 2416 (.int 24 2415),E P "LBRACE" 2418 (.int 25 2417),E P "RBRACE" 2420 (.int 26 2419),E P "EQEQUAL" 2422 (.int 27 2421),E P "NOTEQUAL" 2424 (.int 28 2423),E P "LESSEQUAL" 2426 (.int 29 2425),E P "GREATEREQUAL" 2428 (.int 30 2427),E P "TILDE" 2430 (.int 31 2429),E P "CIRCUMFLEX" 2432 (.int 32 2431),E P "LEFTSHIFT" 2434 (.int 33 2433),E P "RIGHTSHIFT" 2436 (.int 34 2435),E P "DOUBLESTAR" 2438 (.int 35 2437),E P "PLUSEQUAL" 2440 (.int 36 2439),E P "MINEQUAL" 2442 (.int 37 2441),E P "STAREQUAL" 2444 (.int 38 2443),E P "SLASHEQUAL" 2446 (.int 39 2445),E P "PERCENTEQUAL" 2448 (.int 40 2447),E P "AMPEREQUAL" 2450 (.int 41 2449),E P "VBAREQUAL" 2452 (.int 42 2451),E P "CIRCUMFLEXEQUAL" 2454 (.int 43 2453),E P "LEFTSHIFTEQUAL" 2456 (.int 44 2455),E P "RIGHTSHIFTEQUAL" 2458 (.int 45 2457),E P "DOUBLESTAREQUAL" 2460 (.int 46 2459),E P "DOUBLESLASH" 2462 (.int 47 2461),E P "DOUBLESLASHEQUAL" 2464 (.int 48 2463),E P "AT" 2466 (.int 49 2465),E P "ATEQUAL" 2468 (.int 50 2467),E P "RARROW" 2470 (.int 51 2469),E P "ELLIPSIS" 2472 (.int 52 2471),E P "COLONEQUAL" 2474 (.int 53 2473),E P "EXCLAMATION" 2476 (.int 54 2475),E P "OP" 2478 (.int 55 2477),E P "NT_OFFSET" 2480 (.int 256 2479),E P "EXACT_TOKEN_TYPES" 2577 (r 167),E P "ISTERMINAL" 2584 (r 176),E P "ISNONTERMINAL" 2591 (r 183),E P "ISEOF" 2598 (r 190),E P "_law_lead" 2608 (r 197),E P "_law_columns" 2614 (r 202),E P "_law_witnesses" 2620 (r 207),E P "_law_ups" 2626 (r 212),E P "_law_unseen" 2633 (r 219)] 78
noncomputable def aAD:Obj:=FI .none #[i 1,i 0,.ref 20,i 5,i 0,.ref 27,i 60,i 0,.ref 94,i 72,i 0,.ref 101,i 82,i 0,.ref 119,i 85,i 0,.ref 165,i 143,i 0,.ref 175,i 145,i 0,.ref 182,i 147,i 0,.ref 189,i 150,i 0,.ref 196,i 153,i 0,.ref 201,i 158,i 0,.ref 206,i 166,i 0,.ref 211,i 168,i 0,.ref 218]
noncomputable def zW:Obj:=FO .none "_law_columns" "_law_columns" (stN 70) 0 .none .none
noncomputable def zX:Obj:=CO "_law_columns" 2609 "_law_columns" 2610 2611 153 1 0 0 3 198 true 181 199 .none .none .none (.ref 200) 2612 153 2613
noncomputable def zY:Obj:=FO (.type "function") "_law_columns" "_law_columns" (stN 70) 3 (S "law_sr0089_01" 2599) (.ref 201)
noncomputable def zZ:Obj:=FO .none "_law_witnesses" "_law_witnesses" (stN 71) 0 .none .none
noncomputable def AA:Obj:=CO "_law_witnesses" 2615 "_law_witnesses" 2616 2617 158 1 0 0 3 203 true 181 204 .none .none .none (.ref 205) 2618 158 2619
noncomputable def AB:Obj:=FO (.type "function") "_law_witnesses" "_law_witnesses" (stN 71) 3 (S "law_sr0089_01" 2599) (.ref 206)
noncomputable def AC:Obj:=FO .none "_law_ups" "_law_ups" (stN 72) 0 .none .none
noncomputable def AD:Obj:=CO "_law_ups" 2621 "_law_ups" 2622 2623 166 1 0 0 3 208 true 181 209 .none .none .none (.ref 210) 2624 166 2625
noncomputable def AE:Obj:=FO (.type "function") "_law_ups" "_law_ups" (stN 72) 3 (S "law_sr0089_01" 2599) (.ref 211)
noncomputable def AF:Obj:=⟨(.type "tuple"),none,(.seq #[(S "d" 2630)] 0),#[]⟩
noncomputable def AG:Obj:=FO .none "_law_unseen" "_law_unseen" (stN 73) 0 .none .none
noncomputable def AH:Obj:=CO "_law_unseen" 2627 "_law_unseen" 2628 2629 168 1 0 0 3 213 true 181 214 .none (.ref 215) (.ref 216) (.ref 217) 2631 168 2632
noncomputable def AI:Obj:=FO (.type "function") "_law_unseen" "_law_unseen" (stN 73) 3 (S "law_sr0089_01" 2599) (.ref 218)
noncomputable def JR:BT:=K pG (L (b3o 22)) (L AB)
noncomputable def JS:BT:=K pB (L (b3o 14)) (L aE)
noncomputable def JT:BT:=K pO (L (b3o 30)) (L AF)
noncomputable def JU:BT:=K lJ JT IG
noncomputable def JV:BT:=K pK (L (b3o 26)) (L AD)
noncomputable def JW:BT:=K lH JV IJ
noncomputable def JX:BT:=K aE (L (b3o 18)) (L aA)
noncomputable def JY:BT:=K rY (L (b3o 34)) (L AI)
noncomputable def JZ:BT:=K lM JY IL
noncomputable def KA:BT:=K pI (L (b3o 24)) (L aE)
noncomputable def KB:BT:=K pD (L (b3o 16)) (L zX)
noncomputable def KD:BT:=K aA (L (b3o 32)) (L AG)
noncomputable def KF:BT:=K lK KD IP
noncomputable def KG:BT:=K pM (L (b3o 28)) (L aA)
noncomputable def KH:BT:=K aA KG IT
noncomputable def KI:BT:=K aA (L (b3o 20)) (L zZ)
noncomputable def KJ:BT:=K pH (L (b3o 23)) (L aA)
noncomputable def KK:BT:=K pC (L (b3o 15)) (L zW)
noncomputable def KL:BT:=K pP (L (b3o 31)) (L aA)
noncomputable def KM:BT:=K aA KL JB
noncomputable def KN:BT:=K pL (L (b3o 27)) (L AE)
noncomputable def KO:BT:=K lI KN JE
noncomputable def KP:BT:=K pE (L (b3o 19)) (L aE)
noncomputable def KQ (P:Params):BT:=K (pJ P) (L (b3o 25)) (L AC)
noncomputable def KR (P:Params):BT:=K lE (KQ P) uV
noncomputable def KS:BT:=K aA (L (b3o 17)) (L zY)
noncomputable def KT:BT:=K aE (L (b3o 33)) (L AH)
noncomputable def KU:BT:=K lL KT JL
noncomputable def KV:BT:=K aA (L (b3o 13)) (L aA)
noncomputable def KW:BT:=K pN (L (b3o 29)) (L aE)
noncomputable def KX:BT:=K aE KW JM
noncomputable def KY:BT:=K pF (L (b3o 21)) (L AA)
noncomputable def LA (P:Params):BT:=K (boot_o_0 P) (K (boot_o_1 P) (K (aAC P) (K (boot_o_7 P) (K aA IE (K aE JR IF)) (K hV (K aA JS (HW P)) JU)) (K aA (K gC II JW) (K iS (K lA JX uV) JZ))) (K (boot_o_5 P) (K (boot_o_9 P) (K gB IN (K aA KA IO)) (K aA (K kZ KB (HY P)) KF)) (K fE (K gF IS KH) (K iU (K lC KI IU) IX)))) (K (boot_o_2 P) (K (boot_o_4 P) (K (boot_o_8 P) (K aE IZ (K lD KJ JA)) (K (gG P) (K aE KK (IA P)) KM)) (K aAD (K gE JD KO) (K iT (K lB KP JF) JH))) (K (boot_o_6 P) (K (boot_o_10 P) (K aA JJ (KR P)) (K iR (K aA KS JK) KU)) (K fF (K aA (K kW KV HQ) KX) (K aA (K aA KY (JN P)) JP))))
noncomputable def aAE (P:Params):Obj:=DI #[E P "__name__" 165 (S "law_sr0089_01" 2599),E P "__doc__" 166 .none,E P "__package__" 167 .none,E P "__loader__" 168 (.builtin "__main__.__loader__#opaque"),E P "__spec__" 169 .none,E P "__annotations__" 170 (r 6),E P "__builtins__" 171 (r 4),E P "__file__" 173 (S "/claim/cut.py" 172),E P "__cached__" 174 .none,E P "_wall" 193 (r 21),E P "Whitespace" 296 (r 83),E P "COMPILER_FLAG_NAMES" 329 (r 88),E P "pretty_flags" 339 (r 95),E P "_parse_varint" 348 (r 102),E P "b1_set" 410 (r 110),E P "in_table_b1" 417 (r 120),E P "b3_exceptions" 2368 (r 121),E P "map_table_b3" 2376 (r 166),E P "ENDMARKER" 2380 (.int 0 2379),E P "LPAR" 2382 (.int 7 2381),E P "RPAR" 2384 (.int 8 2383),E P "LSQB" 2386 (.int 9 2385),E P "RSQB" 2388 (.int 10 2387),E P "COLON" 2390 (.int 11 2389),E P "COMMA" 2392 (.int 12 2391),E P "SEMI" 2394 (.int 13 2393),E P "PLUS" 2396 (.int 14 2395),E P "MINUS" 2398 (.int 15 2397),E P "STAR" 2400 (.int 16 2399),E P "SLASH" 2402 (.int 17 2401),E P "VBAR" 2404 (.int 18 2403),E P "AMPER" 2406 (.int 19 2405),E P "LESS" 2408 (.int 20 2407),E P "GREATER" 2410 (.int 21 2409),E P "EQUAL" 2412 (.int 22 2411),E P "DOT" 2414 (.int 23 2413),E P "PERCENT" 2416 (.int 24 2415),E P "LBRACE" 2418 (.int 25 2417),E P "RBRACE" 2420 (.int 26 2419),E P "EQEQUAL" 2422 (.int 27 2421),E P "NOTEQUAL" 2424 (.int 28 2423),E P "LESSEQUAL" 2426 (.int 29 2425),E P "GREATEREQUAL" 2428 (.int 30 2427),E P "TILDE" 2430 (.int 31 2429),E P "CIRCUMFLEX" 2432 (.int 32 2431),E P "LEFTSHIFT" 2434 (.int 33 2433),E P "RIGHTSHIFT" 2436 (.int 34 2435),E P "DOUBLESTAR" 2438 (.int 35 2437),E P "PLUSEQUAL" 2440 (.int 36 2439),E P "MINEQUAL" 2442 (.int 37 2441),E P "STAREQUAL" 2444 (.int 38 2443),E P "SLASHEQUAL" 2446 (.int 39 2445),E P "PERCENTEQUAL" 2448 (.int 40 2447),E P "AMPEREQUAL" 2450 (.int 41 2449),E P "VBAREQUAL" 2452 (.int 42 2451),E P "CIRCUMFLEXEQUAL" 2454 (.int 43 2453),E P "LEFTSHIFTEQUAL" 2456 (.int 44 2455),E P "RIGHTSHIFTEQUAL" 2458 (.int 45 2457),E P "DOUBLESTAREQUAL" 2460 (.int 46 2459),E P "DOUBLESLASH" 2462 (.int 47 2461),E P "DOUBLESLASHEQUAL" 2464 (.int 48 2463),E P "AT" 2466 (.int 49 2465),E P "ATEQUAL" 2468 (.int 50 2467),E P "RARROW" 2470 (.int 51 2469),E P "ELLIPSIS" 2472 (.int 52 2471),E P "COLONEQUAL" 2474 (.int 53 2473),E P "EXCLAMATION" 2476 (.int 54 2475),E P "OP" 2478 (.int 55 2477),E P "NT_OFFSET" 2480 (.int 256 2479),E P "EXACT_TOKEN_TYPES" 2577 (r 167),E P "ISTERMINAL" 2584 (r 176),E P "ISNONTERMINAL" 2591 (r 183),E P "ISEOF" 2598 (r 190),E P "_law_lead" 2608 (r 197),E P "_law_columns" 2614 (r 202),E P "_law_witnesses" 2620 (r 207),E P "_law_ups" 2626 (r 212),E P "_law_unseen" 2633 (r 219),E P "_law_operator" 2640 (r 226),E P "_law_spelled" 2646 (r 231),E P "_law_page" 2652 (r 236),E P "_law_octets" 2658 (r 241)] 82
noncomputable def aAF:Obj:=FI .none #[i 1,i 0,.ref 20,i 5,i 0,.ref 27,i 60,i 0,.ref 94,i 72,i 0,.ref 101,i 82,i 0,.ref 119,i 85,i 0,.ref 165,i 143,i 0,.ref 175,i 145,i 0,.ref 182,i 147,i 0,.ref 189,i 150,i 0,.ref 196,i 153,i 0,.ref 201,i 158,i 0,.ref 206,i 166,i 0,.ref 211,i 168,i 0,.ref 218,i 170,i 0,.ref 225,i 172,i 0,.ref 230,i 175,i 0,.ref 235,i 188,i 0,.ref 240]
noncomputable def AJ:Obj:=⟨(.type "tuple"),none,(.seq #[(S "d" 2637)] 0),#[]⟩
noncomputable def AK:Obj:=FO .none "_law_operator" "_law_operator" (stN 74) 0 .none .none
noncomputable def AL:Obj:=CO "_law_operator" 2634 "_law_operator" 2635 2636 170 1 0 0 3 220 true 181 221 .none (.ref 222) (.ref 223) (.ref 224) 2638 170 2639
noncomputable def AM:Obj:=FO (.type "function") "_law_operator" "_law_operator" (stN 74) 3 (S "law_sr0089_01" 2599) (.ref 225)
noncomputable def LB:Obj:=FO .none "_law_spelled" "_law_spelled" (stN 75) 0 .none .none
noncomputable def LC:Obj:=CO "_law_spelled" 2641 "_law_spelled" 2642 2643 172 2 0 0 3 227 true 181 228 .none .none .none (.ref 229) 2644 172 2645
noncomputable def LD:Obj:=FO (.type "function") "_law_spelled" "_law_spelled" (stN 75) 3 (S "law_sr0089_01" 2599) (.ref 230)
noncomputable def LE:Obj:=FO .none "_law_page" "_law_page" (stN 76) 0 .none .none
noncomputable def LF:Obj:=CO "_law_page" 2647 "_law_page" 2648 2649 175 3 0 0 3 232 true 181 233 .none .none .none (.ref 234) 2650 175 2651
noncomputable def LG:Obj:=FO (.type "function") "_law_page" "_law_page" (stN 76) 3 (S "law_sr0089_01" 2599) (.ref 235)
noncomputable def LH:Obj:=FO .none "_law_octets" "_law_octets" (stN 77) 0 .none .none
noncomputable def LI:Obj:=CO "_law_octets" 2653 "_law_octets" 2654 2655 188 1 0 0 3 237 true 181 238 .none .none .none (.ref 239) 2656 188 2657
noncomputable def LJ:Obj:=FO (.type "function") "_law_octets" "_law_octets" (stN 77) 3 (S "law_sr0089_01" 2599) (.ref 240)
noncomputable def LK:BT:=K sC (L (b3o 38)) (L aA)
noncomputable def LL:BT:=K sO (L zH) (L LH)
noncomputable def LM:BT:=K aE JR LL
noncomputable def LN (P:Params):BT:=K sH (L (zC P)) (L LD)
noncomputable def LO:BT:=K aA (L aE) (L LF)
noncomputable def LP:BT:=K lA JX LO
noncomputable def LQ:BT:=K aE (L aE) (L AL)
noncomputable def LR:BT:=K sP (L aA) (L LJ)
noncomputable def LS:BT:=K aA KA LR
noncomputable def LT (P:Params):BT:=K sJ (L (zE P)) (L aE)
noncomputable def LU:BT:=K sE (L zA) (L LB)
noncomputable def LW:BT:=K sM (L aA) (L aA)
noncomputable def LX:BT:=K lC KI LW
noncomputable def LY:BT:=K rZ (L (b3o 36)) (L aE)
noncomputable def LZ:BT:=K aA (L aA) (L AK)
noncomputable def MA:BT:=K aA (L zI) (L LI)
noncomputable def MB:BT:=K lD KJ MA
noncomputable def MC (P:Params):BT:=K sI (L (zD P)) (L aA)
noncomputable def MD:BT:=K sD (L yZ) (L aE)
noncomputable def ME:BT:=K sL (L zF) (L LG)
noncomputable def MF:BT:=K lB KP ME
noncomputable def MG:BT:=K aA (L (b3o 35)) (L aA)
noncomputable def MH:BT:=K pQ (L uS) (L AM)
noncomputable def MI:BT:=K sK (L aA) (L LE)
noncomputable def MJ:BT:=K aA KS MI
noncomputable def MK:BT:=K sG (L zB) (L LC)
noncomputable def ML (P:Params):BT:=K (sN P) (L zG) (L aE)
noncomputable def MM (P:Params):BT:=K aA KY (ML P)
noncomputable def MN:BT:=K sA (L (b3o 37)) (L AJ)
noncomputable def MO (P:Params):BT:=K (boot_o_0 P) (K (boot_o_1 P) (K (aAE P) (K (boot_o_7 P) (K aA (K kR ID LK) LM) (K hV (K aA JS (LN P)) JU)) (K aA (K gC (K aA IH y27) JW) (K iS LP JZ))) (K (boot_o_5 P) (K (boot_o_9 P) (K gB (K aE IM LQ) LS) (K aA (K kZ KB (LT P)) KF)) (K fE (K gF (K kU IQ LU) KH) (K iU LX (K aE LY IW))))) (K (boot_o_2 P) (K (boot_o_4 P) (K (boot_o_8 P) (K aE (K aA IY LZ) MB) (K (gG P) (K aE KK (MC P)) KM)) (K aAF (K gE (K kT JC MD) KO) (K iT MF (K aA MG JG)))) (K (boot_o_6 P) (K (boot_o_10 P) (K aA (K jO JI MH) (KR P)) (K iR MJ KU)) (K fF (K aA (K kW KV MK) KX) (K aA (MM P) (K lN MN JO)))))
noncomputable def aAG (P:Params):Obj:=DI #[E P "__name__" 165 (S "law_sr0089_01" 2599),E P "__doc__" 166 .none,E P "__package__" 167 .none,E P "__loader__" 168 (.builtin "__main__.__loader__#opaque"),E P "__spec__" 169 .none,E P "__annotations__" 170 (r 6),E P "__builtins__" 171 (r 4),E P "__file__" 173 (S "/claim/cut.py" 172),E P "__cached__" 174 .none,E P "_wall" 193 (r 21),E P "Whitespace" 296 (r 83),E P "COMPILER_FLAG_NAMES" 329 (r 88),E P "pretty_flags" 339 (r 95),E P "_parse_varint" 348 (r 102),E P "b1_set" 410 (r 110),E P "in_table_b1" 417 (r 120),E P "b3_exceptions" 2368 (r 121),E P "map_table_b3" 2376 (r 166),E P "ENDMARKER" 2380 (.int 0 2379),E P "LPAR" 2382 (.int 7 2381),E P "RPAR" 2384 (.int 8 2383),E P "LSQB" 2386 (.int 9 2385),E P "RSQB" 2388 (.int 10 2387),E P "COLON" 2390 (.int 11 2389),E P "COMMA" 2392 (.int 12 2391),E P "SEMI" 2394 (.int 13 2393),E P "PLUS" 2396 (.int 14 2395),E P "MINUS" 2398 (.int 15 2397),E P "STAR" 2400 (.int 16 2399),E P "SLASH" 2402 (.int 17 2401),E P "VBAR" 2404 (.int 18 2403),E P "AMPER" 2406 (.int 19 2405),E P "LESS" 2408 (.int 20 2407),E P "GREATER" 2410 (.int 21 2409),E P "EQUAL" 2412 (.int 22 2411),E P "DOT" 2414 (.int 23 2413),E P "PERCENT" 2416 (.int 24 2415),E P "LBRACE" 2418 (.int 25 2417),E P "RBRACE" 2420 (.int 26 2419),E P "EQEQUAL" 2422 (.int 27 2421),E P "NOTEQUAL" 2424 (.int 28 2423),E P "LESSEQUAL" 2426 (.int 29 2425),E P "GREATEREQUAL" 2428 (.int 30 2427),E P "TILDE" 2430 (.int 31 2429),E P "CIRCUMFLEX" 2432 (.int 32 2431),E P "LEFTSHIFT" 2434 (.int 33 2433),E P "RIGHTSHIFT" 2436 (.int 34 2435),E P "DOUBLESTAR" 2438 (.int 35 2437),E P "PLUSEQUAL" 2440 (.int 36 2439),E P "MINEQUAL" 2442 (.int 37 2441),E P "STAREQUAL" 2444 (.int 38 2443),E P "SLASHEQUAL" 2446 (.int 39 2445),E P "PERCENTEQUAL" 2448 (.int 40 2447),E P "AMPEREQUAL" 2450 (.int 41 2449),E P "VBAREQUAL" 2452 (.int 42 2451),E P "CIRCUMFLEXEQUAL" 2454 (.int 43 2453),E P "LEFTSHIFTEQUAL" 2456 (.int 44 2455),E P "RIGHTSHIFTEQUAL" 2458 (.int 45 2457),E P "DOUBLESTAREQUAL" 2460 (.int 46 2459),E P "DOUBLESLASH" 2462 (.int 47 2461),E P "DOUBLESLASHEQUAL" 2464 (.int 48 2463),E P "AT" 2466 (.int 49 2465),E P "ATEQUAL" 2468 (.int 50 2467),E P "RARROW" 2470 (.int 51 2469),E P "ELLIPSIS" 2472 (.int 52 2471),E P "COLONEQUAL" 2474 (.int 53 2473),E P "EXCLAMATION" 2476 (.int 54 2475),E P "OP" 2478 (.int 55 2477),E P "NT_OFFSET" 2480 (.int 256 2479),E P "EXACT_TOKEN_TYPES" 2577 (r 167),E P "ISTERMINAL" 2584 (r 176),E P "ISNONTERMINAL" 2591 (r 183),E P "ISEOF" 2598 (r 190),E P "_law_lead" 2608 (r 197),E P "_law_columns" 2614 (r 202),E P "_law_witnesses" 2620 (r 207),E P "_law_ups" 2626 (r 212),E P "_law_unseen" 2633 (r 219),E P "_law_operator" 2640 (r 226),E P "_law_spelled" 2646 (r 231),E P "_law_page" 2652 (r 236),E P "_law_octets" 2658 (r 241),E P "_law_read" 2671 (r 248),E P "_law_joined" 2677 (r 253),E P "_law_fold" 2692 (r 260),E P "_law_wires" 2698 (r 265)] 86
noncomputable def aAH:Obj:=FI .none #[i 1,i 0,.ref 20,i 5,i 0,.ref 27,i 60,i 0,.ref 94,i 72,i 0,.ref 101,i 82,i 0,.ref 119,i 85,i 0,.ref 165,i 143,i 0,.ref 175,i 145,i 0,.ref 182,i 147,i 0,.ref 189,i 150,i 0,.ref 196,i 153,i 0,.ref 201,i 158,i 0,.ref 206,i 166,i 0,.ref 211,i 168,i 0,.ref 218,i 170,i 0,.ref 225,i 172,i 0,.ref 230,i 175,i 0,.ref 235,i 188,i 0,.ref 240,i 197,i 0,.ref 247,i 214,i 0,.ref 252,i 216,i 0,.ref 259,i 226,i 0,.ref 264]
noncomputable def MP:Obj:=⟨(.type "tuple"),none,(.seq #[(S "octets" 2662),(S "iterator" 2663),(S "rows" 2664),(S "x" 2665),(S "told" 2666),(S "text" 2667),(S "op" 2668)] 0),#[]⟩
noncomputable def MQ:Obj:=FO .none "_law_read" "_law_read" (stN 78) 0 .none .none
noncomputable def MR:Obj:=CO "_law_read" 2659 "_law_read" 2660 2661 197 1 0 0 3 242 true 181 243 .none (.ref 244) (.ref 245) (.ref 246) 2669 197 2670
noncomputable def MS:Obj:=FO (.type "function") "_law_read" "_law_read" (stN 78) 3 (S "law_sr0089_01" 2599) (.ref 247)
noncomputable def MT:Obj:=FO .none "_law_joined" "_law_joined" (stN 79) 0 .none .none
noncomputable def MU:Obj:=CO "_law_joined" 2672 "_law_joined" 2673 2674 214 2 0 0 3 249 true 181 250 .none .none .none (.ref 251) 2675 214 2676
noncomputable def MV:Obj:=FO (.type "function") "_law_joined" "_law_joined" (stN 79) 3 (S "law_sr0089_01" 2599) (.ref 252)
noncomputable def MW:Obj:=⟨(.type "tuple"),none,(.seq #[(S "rows" 2681),(S "ups" 2682),(S "nets" 2683),(S "text" 2684),(S "op" 2685),(S "i" 2686),(S "a" 2687),(S "net" 2688),(S "part" 2689)] 0),#[]⟩
noncomputable def MX:Obj:=FO .none "_law_fold" "_law_fold" (stN 80) 0 .none .none
noncomputable def MY:Obj:=CO "_law_fold" 2678 "_law_fold" 2679 2680 216 2 0 0 3 254 true 181 255 .none (.ref 256) (.ref 257) (.ref 258) 2690 216 2691
noncomputable def MZ:Obj:=FO (.type "function") "_law_fold" "_law_fold" (stN 80) 3 (S "law_sr0089_01" 2599) (.ref 259)
noncomputable def NA:Obj:=FO .none "_law_wires" "_law_wires" (stN 81) 0 .none .none
noncomputable def NB:Obj:=CO "_law_wires" 2693 "_law_wires" 2694 2695 226 3 0 0 3 261 true 181 262 .none .none .none (.ref 263) 2696 226 2697
noncomputable def NC:Obj:=FO (.type "function") "_law_wires" "_law_wires" (stN 81) 3 (S "law_sr0089_01" 2599) (.ref 264)
noncomputable def ND:BT:=K aA (K (b3o 6) (L aE) .nil) (L aA)
noncomputable def NE (P:Params):BT:=K aA (K pB (K (b3o 14) (L NA) .nil) (L aE)) (LN P)
noncomputable def NF:BT:=K sS (L zM) (L MR)
noncomputable def NG:BT:=K aA (K aA (K (b3o 10) (L MY) .nil) (L zS)) y27
noncomputable def NH:BT:=K aE (L zJ) (L aE)
noncomputable def NI:BT:=K (b3o 2) (L aA) (L MT)
noncomputable def NJ:BT:=K oY (K (b3o 8) (L aA) .nil) (L zR)
noncomputable def NK (P:Params):BT:=K kZ (K pD (K (b3o 16) (L NC) .nil) (L zX)) (LT P)
noncomputable def NL:BT:=K (b3o 0) (L aE) (L aA)
noncomputable def NM:BT:=K kU (K pA (K (b3o 12) (L aA) .nil) (L zV)) LU
noncomputable def NN:BT:=K aA (L zK) (L aA)
noncomputable def NO:BT:=K (b3o 4) (L zP) (L MV)
noncomputable def NQ:BT:=K oX (K (b3o 7) (L MW) .nil) (L aE)
noncomputable def NR (P:Params):BT:=K aE (K pC (K (b3o 15) (L NB) .nil) (L zW)) (MC P)
noncomputable def NS:BT:=K sT (L aA) (L MS)
noncomputable def NT:BT:=K kT (K aE (K (b3o 11) (L MZ) .nil) (L zU)) MD
noncomputable def NU:BT:=K sQ (L aA) (L MP)
noncomputable def NV:BT:=K (b3o 3) (L zO) (L MU)
noncomputable def NW:BT:=K oZ (K (b3o 9) (L MX) .nil) (L aA)
noncomputable def NX:BT:=K aA (L aE) (L aA)
noncomputable def NY:BT:=K (b3o 1) (L zN) (L aE)
noncomputable def NZ:BT:=K kW (K aA (K (b3o 13) (L aE) .nil) (L aA)) MK
noncomputable def OA:BT:=K sR (L zL) (L MQ)
noncomputable def OB:BT:=K (b3o 5) (L zQ) (L aA)
noncomputable def OC (P:Params):BT:=K (boot_o_0 P) (K (boot_o_1 P) (K (aAG P) (K (boot_o_7 P) (K aA (K kR ND LK) LM) (K hV (NE P) (K lJ JT NF))) (K aA (K gC NG (K lH JV NH)) (K iS LP (K lM JY NI)))) (K (boot_o_5 P) (K (boot_o_9 P) (K gB (K aE NJ LQ) LS) (K aA (NK P) (K lK KD NL))) (K fE (K gF NM (K aA KG NN)) (K iU LX (K aE LY NO))))) (K (boot_o_2 P) (K (boot_o_4 P) (K (boot_o_8 P) (K aE (K aA NQ LZ) MB) (K (gG P) (NR P) (K aA KL NS))) (K aAH (K gE NT (K lI KN NU)) (K iT MF (K aA MG NV)))) (K (boot_o_6 P) (K (boot_o_10 P) (K aA (K jO NW MH) (K lE (KQ P) NX)) (K iR MJ (K lL KT NY))) (K fF (K aA NZ (K aE KW OA)) (K aA (MM P) (K lN MN OB)))))
noncomputable def OD (P:Params):Obj:=DI #[E P "__name__" 165 (S "law_sr0089_01" 2599),E P "__doc__" 166 .none,E P "__package__" 167 .none,E P "__loader__" 168 (.builtin "__main__.__loader__#opaque"),E P "__spec__" 169 .none,E P "__annotations__" 170 (r 6),E P "__builtins__" 171 (r 4),E P "__file__" 173 (S "/claim/cut.py" 172),E P "__cached__" 174 .none,E P "_wall" 193 (r 21),E P "Whitespace" 296 (r 83),E P "COMPILER_FLAG_NAMES" 329 (r 88),E P "pretty_flags" 339 (r 95),E P "_parse_varint" 348 (r 102),E P "b1_set" 410 (r 110),E P "in_table_b1" 417 (r 120),E P "b3_exceptions" 2368 (r 121),E P "map_table_b3" 2376 (r 166),E P "ENDMARKER" 2380 (.int 0 2379),E P "LPAR" 2382 (.int 7 2381),E P "RPAR" 2384 (.int 8 2383),E P "LSQB" 2386 (.int 9 2385),E P "RSQB" 2388 (.int 10 2387),E P "COLON" 2390 (.int 11 2389),E P "COMMA" 2392 (.int 12 2391),E P "SEMI" 2394 (.int 13 2393),E P "PLUS" 2396 (.int 14 2395),E P "MINUS" 2398 (.int 15 2397),E P "STAR" 2400 (.int 16 2399),E P "SLASH" 2402 (.int 17 2401),E P "VBAR" 2404 (.int 18 2403),E P "AMPER" 2406 (.int 19 2405),E P "LESS" 2408 (.int 20 2407),E P "GREATER" 2410 (.int 21 2409),E P "EQUAL" 2412 (.int 22 2411),E P "DOT" 2414 (.int 23 2413),E P "PERCENT" 2416 (.int 24 2415),E P "LBRACE" 2418 (.int 25 2417),E P "RBRACE" 2420 (.int 26 2419),E P "EQEQUAL" 2422 (.int 27 2421),E P "NOTEQUAL" 2424 (.int 28 2423),E P "LESSEQUAL" 2426 (.int 29 2425),E P "GREATEREQUAL" 2428 (.int 30 2427),E P "TILDE" 2430 (.int 31 2429),E P "CIRCUMFLEX" 2432 (.int 32 2431),E P "LEFTSHIFT" 2434 (.int 33 2433),E P "RIGHTSHIFT" 2436 (.int 34 2435),E P "DOUBLESTAR" 2438 (.int 35 2437),E P "PLUSEQUAL" 2440 (.int 36 2439),E P "MINEQUAL" 2442 (.int 37 2441),E P "STAREQUAL" 2444 (.int 38 2443),E P "SLASHEQUAL" 2446 (.int 39 2445),E P "PERCENTEQUAL" 2448 (.int 40 2447),E P "AMPEREQUAL" 2450 (.int 41 2449),E P "VBAREQUAL" 2452 (.int 42 2451),E P "CIRCUMFLEXEQUAL" 2454 (.int 43 2453),E P "LEFTSHIFTEQUAL" 2456 (.int 44 2455),E P "RIGHTSHIFTEQUAL" 2458 (.int 45 2457),E P "DOUBLESTAREQUAL" 2460 (.int 46 2459),E P "DOUBLESLASH" 2462 (.int 47 2461),E P "DOUBLESLASHEQUAL" 2464 (.int 48 2463),E P "AT" 2466 (.int 49 2465),E P "ATEQUAL" 2468 (.int 50 2467),E P "RARROW" 2470 (.int 51 2469),E P "ELLIPSIS" 2472 (.int 52 2471),E P "COLONEQUAL" 2474 (.int 53 2473),E P "EXCLAMATION" 2476 (.int 54 2475),E P "OP" 2478 (.int 55 2477),E P "NT_OFFSET" 2480 (.int 256 2479),E P "EXACT_TOKEN_TYPES" 2577 (r 167),E P "ISTERMINAL" 2584 (r 176),E P "ISNONTERMINAL" 2591 (r 183),E P "ISEOF" 2598 (r 190),E P "_law_lead" 2608 (r 197),E P "_law_columns" 2614 (r 202),E P "_law_witnesses" 2620 (r 207),E P "_law_ups" 2626 (r 212),E P "_law_unseen" 2633 (r 219),E P "_law_operator" 2640 (r 226),E P "_law_spelled" 2646 (r 231),E P "_law_page" 2652 (r 236),E P "_law_octets" 2658 (r 241),E P "_law_read" 2671 (r 248),E P "_law_joined" 2677 (r 253),E P "_law_fold" 2692 (r 260),E P "_law_wires" 2698 (r 265),E P "_law_determinant" 2704 (r 270),E P "_law_words" 2710 (r 275),E P "_law_named" 2716 (r 280),E P "_law_left" 2722 (r 285),E P "law" 2728 (r 290)] 91
noncomputable def OE:Obj:=FI .none #[i 1,i 0,.ref 20,i 5,i 0,.ref 27,i 60,i 0,.ref 94,i 72,i 0,.ref 101,i 82,i 0,.ref 119,i 85,i 0,.ref 165,i 143,i 0,.ref 175,i 145,i 0,.ref 182,i 147,i 0,.ref 189,i 150,i 0,.ref 196,i 153,i 0,.ref 201,i 158,i 0,.ref 206,i 166,i 0,.ref 211,i 168,i 0,.ref 218,i 170,i 0,.ref 225,i 172,i 0,.ref 230,i 175,i 0,.ref 235,i 188,i 0,.ref 240,i 197,i 0,.ref 247,i 214,i 0,.ref 252,i 216,i 0,.ref 259,i 226,i 0,.ref 264,i 237,i 0,.ref 269,i 251,i 0,.ref 274,i 254,i 0,.ref 279,i 257,i 0,.ref 284,i 259,i 0,.ref 289]
noncomputable def OF:Obj:=FO .none "_law_determinant" "_law_determinant" (stN 82) 0 .none .none
noncomputable def OG:Obj:=CO "_law_determinant" 2699 "_law_determinant" 2700 2701 237 1 0 0 3 266 true 181 267 .none .none .none (.ref 268) 2702 237 2703
noncomputable def OH:Obj:=FO (.type "function") "_law_determinant" "_law_determinant" (stN 82) 3 (S "law_sr0089_01" 2599) (.ref 269)
noncomputable def OI:Obj:=FO .none "_law_words" "_law_words" (stN 83) 0 .none .none
noncomputable def OJ:Obj:=CO "_law_words" 2705 "_law_words" 2706 2707 251 1 0 0 3 271 true 181 272 .none .none .none (.ref 273) 2708 251 2709
noncomputable def OK:Obj:=FO (.type "function") "_law_words" "_law_words" (stN 83) 3 (S "law_sr0089_01" 2599) (.ref 274)
noncomputable def OL:Obj:=FO .none "_law_named" "_law_named" (stN 84) 0 .none .none
noncomputable def OM:Obj:=CO "_law_named" 2711 "_law_named" 2712 2713 254 2 0 0 3 276 true 181 277 .none .none .none (.ref 278) 2714 254 2715
noncomputable def ON:Obj:=FO (.type "function") "_law_named" "_law_named" (stN 84) 3 (S "law_sr0089_01" 2599) (.ref 279)
noncomputable def OO:Obj:=FO .none "_law_left" "_law_left" (stN 85) 0 .none .none
noncomputable def OP:Obj:=CO "_law_left" 2717 "_law_left" 2718 2719 257 2 0 0 3 281 true 181 282 .none .none .none (.ref 283) 2720 257 2721
noncomputable def OQ:Obj:=FO (.type "function") "_law_left" "_law_left" (stN 85) 3 (S "law_sr0089_01" 2599) (.ref 284)
noncomputable def OR:Obj:=FO .none "law" "law" (stN 86) 0 .none .none
noncomputable def OS:Obj:=CO "law" 2723 "law" 2724 2725 259 1 0 0 3 286 true 181 287 .none .none .none (.ref 288) 2726 259 2727
noncomputable def OT:Obj:=FO (.type "function") "law" "law" (stN 86) 3 (S "law_sr0089_01" 2599) (.ref 289)
noncomputable def lO (P:Params):BT:=K (boot_o_0 P) (K (boot_o_1 P) (K (OD P) (K (boot_o_7 P) (K aA (K kR ND (K sC (K (b3o 38) (L aE) .nil) (L aA))) (K aE (K pG (K (b3o 22) (L aA) .nil) (L AB)) LL)) (K hV (NE P) (K lJ (K pO (K (b3o 30) (L OM) .nil) (L AF)) NF))) (K aA (K gC NG (K lH (K pK (K (b3o 26) (L OK) .nil) (L AD)) NH)) (K iS (K lA (K aE (K (b3o 18) (L aE) .nil) (L aA)) LO) (K lM (K rY (K (b3o 34) (L OO) .nil) (L AI)) NI)))) (K (boot_o_5 P) (K (boot_o_9 P) (K gB (K aE NJ (K aE (K aE (L OS) .nil) (L AL))) (K aA (K pI (K (b3o 24) (L OI) .nil) (L aE)) LR)) (K aA (NK P) (K lK (K aA (K (b3o 32) (L aA) .nil) (L AG)) NL))) (K fE (K gF NM (K aA (K pM (K (b3o 28) (L aE) .nil) (L aA)) NN)) (K iU (K lC (K aA (K (b3o 20) (L OG) .nil) (L zZ)) LW) (K aE (K rZ (K (b3o 36) (L OQ) .nil) (L aE)) NO))))) (K (boot_o_2 P) (K (boot_o_4 P) (K (boot_o_8 P) (K aE (K aA NQ (K aA (K aA (L OR) .nil) (L AK))) (K lD (K pH (K (b3o 23) (L aE) .nil) (L aA)) MA)) (K (gG P) (NR P) (K aA (K pP (K (b3o 31) (L ON) .nil) (L aA)) NS))) (K OE (K gE NT (K lI (K pL (K (b3o 27) (L aA) .nil) (L AE)) NU)) (K iT (K lB (K pE (K (b3o 19) (L OF) .nil) (L aE)) ME) (K aA (K aA (K (b3o 35) (L OP) .nil) (L aA)) NV)))) (K (boot_o_6 P) (K (boot_o_10 P) (K aA (K jO NW (K pQ (K uS (L OT) .nil) (L AM))) (K lE (K (pJ P) (K (b3o 25) (L OJ) .nil) (L AC)) NX)) (K iR (K aA (K aA (K (b3o 17) (L aA) .nil) (L zY)) MI) (K lL (K aE (K (b3o 33) (L aE) .nil) (L AH)) NY))) (K fF (K aA NZ (K aE (K pN (K (b3o 29) (L OL) .nil) (L aE)) OA)) (K aA (K aA (K pF (K (b3o 21) (L OH) .nil) (L AA)) (ML P)) (K lN (K sA (K (b3o 37) (L aA) .nil) (L AJ)) OB)))))
noncomputable def hpF (P:Params):Heap:=⟨Array.mk [(boot_o_0 P),(boot_o_1 P),(boot_o_2 P),(OD P),(boot_o_4 P),(boot_o_5 P),(boot_o_6 P),(boot_o_7 P),(boot_o_8 P),(boot_o_9 P),(boot_o_10 P),aA,OE,fE,fF,aA,aE,gB,aA,gC,gE,gF,aA,hV,(gG P),aA,iR,iS,iT,iU,aA,kR,aA,aE,jO,aA,kT,kU,kW,aA,aE,kZ,aA,lA,lB,lC,aA,aE,lD,aA,lE,lH,lI,aA,aE,lJ,aA,lK,lL,lM,aA,aE,lN,aA,oX,oY,oZ,aA,aE,pA,aA,pB,pC,pD,aA,aE,pE,aA,pF,pG,pH,pI,(pJ P),pK,pL,pM,pN,pO,pP,aA,aE,rY,aA,rZ,sA,sC,aA,aE,pQ,aA,sD,sE,sG,sH,sI,sJ,sK,aA,sL,sM,(sN P),sO,aA,sP,aA,aE,sQ,aA,sR,sS,sT,(b3o 0),(b3o 1),(b3o 2),(b3o 3),(b3o 4),(b3o 5),(b3o 6),(b3o 7),(b3o 8),(b3o 9),(b3o 10),(b3o 11),(b3o 12),(b3o 13),(b3o 14),(b3o 15),(b3o 16),(b3o 17),(b3o 18),(b3o 19),(b3o 20),(b3o 21),(b3o 22),(b3o 23),(b3o 24),(b3o 25),(b3o 26),(b3o 27),(b3o 28),(b3o 29),(b3o 30),(b3o 31),(b3o 32),(b3o 33),(b3o 34),(b3o 35),(b3o 36),(b3o 37),(b3o 38),aA,aE,uS,aA,yZ,zA,zB,(zC P),(zD P),(zE P),aA,aE,zF,aA,zG,zH,zI,aA,aE,zJ,aA,zK,zL,zM,aA,aE,zN,aA,zO,zP,zQ,aA,aE,zR,aA,zS,zU,zV,aA,aE,zW,zX,zY,aA,aE,zZ,AA,AB,aA,aE,AC,AD,AE,aA,aE,AF,aA,AG,AH,AI,aA,aE,AJ,aA,AK,AL,AM,aA,aE,LB,LC,LD,aA,aE,LE,LF,LG,aA,aE,LH,LI,LJ,aA,aE,MP,aA,MQ,MR,MS,aA,aE,MT,MU,MV,aA,aE,MW,aA,MX,MY,MZ,aA,aE,NA,NB,NC,aA,aE,OF,OG,OH,aA,aE,OI,OJ,OK,aA,aE,OL,OM,ON,aA,aE,OO,OP,OQ,aA,aE,OR,OS,OT],{}⟩
noncomputable def g0L (w:World):=goS w (part 0 2) ⟨0,0,0,0⟩ (tr0 w.params) 15 187
noncomputable def g0R (w:World):Res (Except Value Flow):=some (.ok .next,⟨4,0,4,8⟩,tr1 w.params,22,196,38)
theorem g0 (w:World):g0L w=g0R w:=by kernel_rfl
noncomputable def g1L (w:World):=goS w (part 2 1) ⟨4,0,4,8⟩ (tr1 w.params) 22 196
noncomputable def g1R (w:World):Res (Except Value Flow):=some (.ok .next,⟨5,0,57,16⟩,tr2 w.params,88,297,493)
theorem aAI (w:World):g1L (w.withFollow "special-get-raises" false)=g1R (w.withFollow "special-get-raises" false):=by kernel_rfl
theorem aAJ (w:World):g1L (w.withFollow "special-get-raises" true)=g1R (w.withFollow "special-get-raises" true):=by kernel_rfl
theorem g1 (w:World):g1L w=g1R w:=byRow2 "special-get-raises" (P:=fun w=>g1L w=g1R w) aAI aAJ w
noncomputable def g2L (w:World):=goS w (part 3 1) ⟨5,0,57,16⟩ (tr2 w.params) 88 297
noncomputable def g2R (w:World):Res (Except Value Flow):=some (.ok .next,⟨58,0,58,8⟩,tr3 w.params,88,299,9)
theorem g2 (w:World):g2L w=g2R w:=by kernel_rfl
noncomputable def g3L (w:World):=goS w (part 4 1) ⟨58,0,58,8⟩ (tr3 w.params) 88 299
noncomputable def g3R (w:World):Res (Except Value Flow):=some (.ok .next,⟨59,0,59,19⟩,tr4 w.params,89,330,140)
theorem aAK (w:World):g3L (w.withFollow "special-get-raises" false)=g3R (w.withFollow "special-get-raises" false):=by kernel_rfl
theorem aAL (w:World):g3L (w.withFollow "special-get-raises" true)=g3R (w.withFollow "special-get-raises" true):=by kernel_rfl
theorem g3 (w:World):g3L w=g3R w:=byRow2 "special-get-raises" (P:=fun w=>g3L w=g3R w) aAK aAL w
noncomputable def g4L (w:World):=goS w (part 5 3) ⟨59,0,59,19⟩ (tr4 w.params) 89 330
noncomputable def g4R (w:World):Res (Except Value Flow):=some (.ok .next,⟨80,0,80,8⟩,tr5 w.params,103,351,72)
theorem g4 (w:World):g4L w=g4R w:=by kernel_rfl
noncomputable def g5L (w:World):=goS w (part 8 1) ⟨80,0,80,8⟩ (tr5 w.params) 103 351
noncomputable def g5R (w:World):Res (Except Value Flow):=some (.ok .next,⟨81,0,81,6⟩,tr6 w.params,114,411,998)
theorem aAM (w:World):g5L ((w.withFollow "special-get-raises" false).withFollow "set-order" false)=g5R ((w.withFollow "special-get-raises" false).withFollow "set-order" false):=by kernel_rfl
theorem aAN (w:World):g5L ((w.withFollow "special-get-raises" true).withFollow "set-order" false)=g5R ((w.withFollow "special-get-raises" true).withFollow "set-order" false):=by kernel_rfl
theorem aAO (w:World):g5L (w.withFollow "set-order" false)=g5R (w.withFollow "set-order" false):=byRow2 "special-get-raises" (P:=fun w=>g5L (w.withFollow "set-order" false)=g5R (w.withFollow "set-order" false)) aAM aAN w
theorem aAP (w:World):g5L ((w.withFollow "special-get-raises" false).withFollow "set-order" true)=g5R ((w.withFollow "special-get-raises" false).withFollow "set-order" true):=by kernel_rfl
theorem aAQ (w:World):g5L ((w.withFollow "special-get-raises" true).withFollow "set-order" true)=g5R ((w.withFollow "special-get-raises" true).withFollow "set-order" true):=by kernel_rfl
theorem aAR (w:World):g5L (w.withFollow "set-order" true)=g5R (w.withFollow "set-order" true):=byRow2 "special-get-raises" (P:=fun w=>g5L (w.withFollow "set-order" true)=g5R (w.withFollow "set-order" true)) aAP aAQ w
theorem g5 (w:World):g5L w=g5R w:=byRow2 "set-order" (P:=fun w=>g5L w=g5R w) aAO aAR w
noncomputable def g6L (w:World):=goS w (part 9 1) ⟨81,0,81,6⟩ (tr6 w.params) 114 411
noncomputable def g6R (w:World):Res (Except Value Flow):=some (.ok .next,⟨82,0,83,30⟩,tr7 w.params,121,418,29)
theorem g6 (w:World):g6L w=g6R w:=by kernel_rfl
noncomputable def g8L (w:World):=goS w (part 11 12) ⟨84,0,84,13⟩ (tr8 w.params) 160 2369
noncomputable def g8R (w:World):Res (Except Value Flow):=some (.ok .next,⟨100,0,100,5⟩,tr9 w.params,167,2399,129)
theorem g8 (w:World):g8L w=g8R w:=by kernel_rfl
noncomputable def g9L (w:World):=goS w (part 23 14) ⟨100,0,100,5⟩ (tr9 w.params) 167 2399
noncomputable def g9R (w:World):Res (Except Value Flow):=some (.ok .next,⟨114,0,114,9⟩,HT w.params,167,2427,126)
theorem g9 (w:World):g9L w=g9R w:=by kernel_rfl
noncomputable def aAS (w:World):=goS w (part 37 14) ⟨114,0,114,9⟩ (HT w.params) 167 2427
noncomputable def aAT (w:World):Res (Except Value Flow):=some (.ok .next,⟨128,0,128,15⟩,HU w.params,167,2455,126)
theorem g10 (w:World):aAS w=aAT w:=by kernel_rfl
noncomputable def aAU (w:World):=goS w (part 51 13) ⟨128,0,128,15⟩ (HU w.params) 167 2455
noncomputable def aAV (w:World):Res (Except Value Flow):=some (.ok .next,⟨141,0,141,9⟩,HV w.params,167,2481,117)
theorem g11 (w:World):aAU w=aAV w:=by kernel_rfl
noncomputable def uW (w:World):=goS w (part 64 1) ⟨141,0,141,9⟩ (HV w.params) 167 2481
noncomputable def uX (w:World):Res (Except Value Flow):=some (.ok .next,⟨142,0,142,17⟩,IC w.params,170,2578,978)
theorem aAW (w:World):uW (w.withFollow "special-get-raises" false)=uX (w.withFollow "special-get-raises" false):=by kernel_rfl
theorem aAX (w:World):uW (w.withFollow "special-get-raises" true)=uX (w.withFollow "special-get-raises" true):=by kernel_rfl
theorem g12 (w:World):uW w=uX w:=byRow2 "special-get-raises" (P:=fun w=>uW w=uX w) aAW aAX w
noncomputable def aAY (w:World):=goS w (part 65 5) ⟨142,0,142,17⟩ (IC w.params) 170 2578
noncomputable def aAZ (w:World):Res (Except Value Flow):=some (.ok .next,⟨150,0,152,38⟩,JQ w.params,198,2609,126)
theorem g13 (w:World):aAY w=aAZ w:=by kernel_rfl
noncomputable def aBa (w:World):=goS w (part 70 4) ⟨150,0,152,38⟩ (JQ w.params) 198 2609
noncomputable def aBb (w:World):Res (Except Value Flow):=some (.ok .next,⟨168,0,169,114⟩,LA w.params,220,2634,107)
theorem g14 (w:World):aBa w=aBb w:=by kernel_rfl
noncomputable def aBc (w:World):=goS w (part 74 4) ⟨168,0,169,114⟩ (LA w.params) 220 2634
noncomputable def aBd (w:World):Res (Except Value Flow):=some (.ok .next,⟨188,0,196,24⟩,MO w.params,242,2659,107)
theorem g15 (w:World):aBc w=aBd w:=by kernel_rfl
noncomputable def aBe (w:World):=goS w (part 78 4) ⟨188,0,196,24⟩ (MO w.params) 242 2659
noncomputable def aBf (w:World):Res (Except Value Flow):=some (.ok .next,⟨226,0,236,73⟩,OC w.params,266,2699,124)
theorem g16 (w:World):aBe w=aBf w:=by kernel_rfl
noncomputable def aBg (w:World):=goS w (part 82 5) ⟨226,0,236,73⟩ (OC w.params) 266 2699
noncomputable def aBh (w:World):Res (Except Value Flow):=some (.ok .next,⟨259,0,277,75⟩,lO w.params,291,2729,130)
theorem g17 (w:World):aBg w=aBh w:=by kernel_rfl
noncomputable def OU:List PySem.Expr:=match stN 10 with
 |.Assign ts _ _=>ts
 |_=>[]
noncomputable def OV:Pos:=match stN 10 with
 |.Assign _ _ p=>p
 |_=>default
noncomputable def AN:List (Option PySem.Expr)→List PySem.Expr→List (Sem Value × Sem Value)
 |some k::ks,v::vs=>(eval k bT,do let x ←eval v bT; standAt mV; pure x)::AN ks vs
 |_,_=>[]
noncomputable def xsB:List (Sem Value × Sem Value):=AN oV oW
section
variable {w:World}
theorem OW {e:PySem.Expr}{c:Const}(h:yY e=some c):∃x y,e=.Constant c x y:=by
 cases e with
 |Constant c x y=>cases h; exact ⟨_,_,rfl⟩
 |_=>cases h
theorem aBi {k:Option PySem.Expr}{i:Int}(h:fD k=some i):∃x y,k=some (.Constant (.int i) x y):=by
 obtain ⟨e,rfl,g⟩:=bS h
 obtain ⟨c,e1,g⟩:=bS g
 obtain ⟨x,y,rfl⟩:=OW e1
 cases c with
 |int i=>cases g; exact ⟨_,_,rfl⟩
 |_=>cases g
theorem aBj {v:PySem.Expr}{s:PySem.Str}(h:GW v=some s):∃x y,v=.Constant (.str s) x y:=by
 obtain ⟨c,e1,g⟩:=bS h
 obtain ⟨x,y,rfl⟩:=OW e1
 cases c with
 |str i=>cases g; exact ⟨_,_,rfl⟩
 |_=>cases g
theorem aBk {k:Option PySem.Expr}{v:PySem.Expr}{a:Pr}(h:GX k v=some a):∃k',k=some k'∧yS pw w 11 (some (.ref 6)) dW fC (eval k' bT,do let x ←eval v bT; standAt mV; pure x) a:=by
 obtain ⟨i,e1,g⟩:=bS h
 obtain ⟨s,e2,g2⟩:=bS g
 obtain ⟨hc,g3⟩:=eO g2
 obtain ⟨_,_,rfl⟩:=aBi e1
 obtain ⟨_,_,rfl⟩:=aBj e2
 ·cases g3
  ·refine ⟨_,rfl,?_,fun T n k=>⟨?_,?_⟩⟩
   ·simpa using hc
   ·show GE _ _ _ _ _ _ _ (mkInt _) _ _ _ _ _ _ _ _
    exact GE.bind (B1:=1) (B2:=0) GE.fresh GE.pure
   ·refine GE.bind (B1:=1) (B2:=1) (a:=.str s k) (T1:=T) (n1:=n) (k1:=k+1) ?_ ?_
    ·show GE _ _ _ _ _ _ _ (mkText _) _ _ _ _ _ _ _ _
     exact GE.bind (B1:=1) (B2:=0) GE.fresh GE.pure
    ·exact GE.bind (B1:=1) (B2:=0) GE.standAt GE.pure
theorem OX:∀(ks:List (Option PySem.Expr)) (vs:List PySem.Expr) (as:List Pr),uR ks vs=some as→dN pw w 11 (some (.ref 6)) dW fC (AN ks vs) as
 |[],[],as,h=>by cases h; exact .nil
 |[],_::_,_,h=>by cases h
 |_::_,[],_,h=>by cases h
 |k::ks,v::vs,as,h=>by
  obtain ⟨a,h1,h⟩:=bS h
  obtain ⟨as',h2,h⟩:=bS h
  cases h
  obtain ⟨k',rfl,hp⟩:=aBk (w:=w) h1
  exact .cons hp (OX ks vs as' h2)
end
theorem aBl:uR oV oW=some (rX++(mW.flatten++kQ)):=by kernel_rfl
noncomputable def keysOk:List (List Pr)→Bool
 |[]=>true
 |c::r=>Nat.beq c.length 17 && keysOk r
noncomputable def AO:Int→List Pr→Bool
 |_,[]=>true
 |i,a::r=>decide (i<a.1) && AO a.1 r
theorem OY:∀(l:List Pr) (i:Int),AO i l=true→∀a∈l,i<a.1
 |[],_,_,_,h=>nomatch h
 |b::r,i,h,a,ha=>by
  obtain ⟨h1,h2⟩:=Bool.and_eq_true_iff.mp h
  rcases List.mem_cons.mp ha with rfl |ha
  ·exact of_decide_eq_true h1
  ·exact Int.lt_trans (of_decide_eq_true h1) (OY r _ h2 a ha)
theorem OZ:∀(l:List Pr) (i:Int),AO i l=true→(l.map (·.1)).Nodup
 |[],_,_=>.nil
 |b::r,i,h=>by
  obtain ⟨h1,h2⟩:=Bool.and_eq_true_iff.mp h
  rw [List.map_cons,List.nodup_cons]
  refine ⟨fun q=>?_,OZ r _ h2⟩
  obtain ⟨a,ha,e⟩:=List.mem_map.mp q
  have:=OY r _ h2 a ha
  omega
theorem aBm:((rX++(mW.flatten++kQ)).map (·.1)).Nodup:=OZ _ (-1) (by kernel_rfl)
theorem aBn:∀c∈mW,c.length=17:=by
 have:mW.all (fun c=>Nat.beq c.length 17)=true:=by kernel_rfl
 intro c hc
 exact Nat.eq_of_beq_eq_true (List.all_eq_true.mp this c hc)
theorem aBo:∀a∈kQ,0≤a.1∧a.1<2000000:=by
 have:kQ.all (fun a=>decide (0≤a.1) && decide (a.1<2000000))=true:=by kernel_rfl
 intro a ha
 have:=List.all_eq_true.mp this a ha
 simpa using this
noncomputable def PA (T:BT):Nat→Bool
 |0=>true
 |n+1=>(T.get n).isSome && PA T n
theorem PC (T:BT):∀n,PA T n=true→cZ T n
 |0,_,i,hi=>absurd hi (Nat.not_lt_zero _)
 |n+1,h,i,hi=>by
  obtain ⟨h1,h2⟩:=Bool.and_eq_true_iff.mp h
  by_cases e:i=n
  ·rw [e]; exact h1
  ·exact PC T n h2 i (by omega)
theorem aBp (P:Params):cZ (tr7 P) 121:=PC _ _ (by kernel_rfl)
noncomputable def trB (P:Params):BT:=eF 121 mW ((tr7 P).ins 121 (aI (aN rX 418) 17)) 122 469 (aN rX 418)
noncomputable def trC (P:Params):BT:=((trB P).ins 159 (aI (dO kQ 2356) 4)).set 121 fun zz=>aI (esB++dO kQ 2356) (esB.length+4)
theorem aBq:(evalEachOpt oV bT).zip ((evalEach oW bT).map fun v=>do let x ←v; standAt mV; pure x)=items xsB:=by kernel_rfl
theorem aBr (w:World):GE (cQ pw w 11 (some (.ref 6))) pw w 11 (some (.ref 6)) dW fC (dictDisplay (items xsB)) (tr7 w.params) 121 418 (.ref 121) (trC w.params) 160 2368 15800:=by
 have h:=aAn (p:=pw) (w:=w) (n₀:=11) (ann:=some (.ref 6)) (code:=dW) (below:=fC) (OX _ _ _ aBl) (by kernel_rfl) aBn (by decide +kernel) (by decide +kernel) aBo (T:=tr7 w.params) (n:=121) (k:=418) (aBp _) (by decide) (by decide) (by decide +kernel) aBm
  (es2:=esB) (T2:=trB w.params) (n2:=159) (k2:=2356) rfl rfl (by kernel_rfl) (by kernel_rfl)
 exact GE.mono (by exact h) (by decide +kernel)
noncomputable def PD (v:Value):Sem Flow:=do
 assignStores bT v (←swappedStores OU (.Dict oV oW mV) bT) ((assignEach OU bT).map (·.2))
noncomputable def PE (f:Flow):Sem Flow:=match f with
 |.next=>execs [] bT
 |f=>pure f
theorem aBs:exec (stN 10) bT=(standAt OV>>=fun zz=>((standAt mV>>=fun zz=>dictDisplay ((evalEachOpt oV bT).zip ((evalEach oW bT).map fun v=>do let x ←v; standAt mV; pure x)))>>=PD)):=by kernel_rfl
theorem aBt:execs (part 10 1) bT=(exec (stN 10) bT>>=PE):=by kernel_rfl
theorem aBu (w:World)(q:Pos):go (cQ pw w 11 (some (.ref 6))) pw w 11 (some (.ref 6)) dW fC (PD (.ref 121)) q (trC w.params) 160 2368 0=some (.ok .next,⟨84,0,84,13⟩,tr8 w.params,160,2369,7):=by kernel_rfl
theorem g7 (w:World):∀c,∃e,e≤15900∧go (cQ pw w 11 (some (.ref 6))) pw w 11 (some (.ref 6)) dW fC (execs (part 10 1) bT) ⟨82,0,83,30⟩ (tr7 w.params) 121 418 c=some (.ok .next,⟨84,0,84,13⟩,tr8 w.params,160,2369,c+e):=fun c=>by
 have h:=aAq (p:=pw) (w:=w) (n₀:=11) (ann:=some (.ref 6)) (code:=dW) (below:=fC) (p1:=OV) (p2:=mV) (q0:=⟨82,0,83,30⟩) (nx:=PE) (oS _) (aBr w) (aBu w) (by rfl) c
 rw [←aBq,←aBs,←aBt] at h
 obtain ⟨e,h1,h2⟩:=h
 exact ⟨e,Nat.le_trans h1 (by decide),h2⟩
theorem AP {α β γ:Type}(t:Sem α)(f:α→Sem β)(g:β→Sem γ):((t>>=f)>>=g)=(t>>=fun a=>f a>>=g):=by
 show (t.bind f).bind g=t.bind fun a=>(f a).bind g
 induction t <;> simp only [Sem.bind, *]
noncomputable def bQ (w:World)(l:List Stmt)(q:Pos)(T:BT)(n k:Nat)(q':Pos)(T':BT)(n' k' B:Nat):Prop:=
 ∀c,∃e,e≤B∧go (cQ pw w 11 (some (.ref 6))) pw w 11 (some (.ref 6)) dW fC (execs l bT) q T n k c=some (.ok .next,q',T',n',k',c+e)
theorem bQ.of {w:World}{l:List Stmt}{q:Pos}{T:BT}{n k:Nat}{q':Pos}{T':BT}{n' k' B:Nat}(h:goS w l q T n k=some (.ok .next,q',T',n',k',B)):bQ w l q T n k q' T' n' k' B:=fun c=>by
 unfold goS at h
 rw [←ZH] at h
 exact ⟨B,Nat.le_refl _,uL (oS _) _ c h⟩
theorem aBv (l r:List Stmt)(env:Env):execs (l++r) env=(execs l env>>=fun f=>match f with |.next=>execs r env |f=>pure f):=by
 induction l with
 |nil=>rfl
 |cons s l ih=>
  show (exec s env>>=fun f=>match f with |.next=>execs (l++r) env |f=>pure f)=((exec s env>>=fun f=>match f with |.next=>execs l env |f=>pure f)>>=fun f=>match f with |.next=>execs r env |f=>pure f)
  rw [show ((exec s env>>=fun f=>match f with |.next=>execs l env |f=>pure f)>>=fun f=>match f with |.next=>execs r env |f=>pure f)=(exec s env>>=fun f=>(match f with |.next=>execs l env |f=>pure f)>>=fun f=>match f with |.next=>execs r env |f=>pure f) from AP _ _ _]
  congr 1
  funext f
  cases f <;> first |exact ih |rfl
theorem bQ.mono {w:World}{l:List Stmt}{q:Pos}{T:BT}{n k:Nat}{q':Pos}{T':BT}{n' k' B B':Nat}(h:bQ w l q T n k q' T' n' k' B)(b:B≤B'):bQ w l q T n k q' T' n' k' B':=fun c=>let ⟨e,h1,h2⟩:=h c; ⟨e,Nat.le_trans h1 b,h2⟩
theorem bQ.app {w:World}{l r:List Stmt}{q q1 q2:Pos}{T T1 T2:BT}{n k n1 k1 n2 k2 B1 B2:Nat}(h:bQ w l q T n k q1 T1 n1 k1 B1)(g:bQ w r q1 T1 n1 k1 q2 T2 n2 k2 B2):bQ w (l++r) q T n k q2 T2 n2 k2 (B1+B2):=fun c=>by
 obtain ⟨e1,h1,h2⟩:=h c
 obtain ⟨e2,g1,g2⟩:=g (c+e1)
 refine ⟨e1+e2,by omega,?_⟩
 rw [aBv,iP,h2]
 show go _ _ _ _ _ _ _ (execs r bT) _ _ _ _ _=_
 rw [g2,Nat.add_assoc]
end
noncomputable section
theorem aBw:behindTheImports pw=part 0 2++(part 2 1++(part 3 1++(part 4 1++(part 5 3++(part 8 1++(part 9 1++(part 10 1++(part 11 12++(part 23 14++(part 37 14++(part 51 13++(part 64 1++(part 65 5++(part 70 4++(part 74 4++(part 78 4++(part 82 5))))))))))))))))):=by kernel_rfl
theorem aBx (w:World):bQ w (behindTheImports pw) ⟨0,0,0,0⟩ (tr0 w.params) 15 187 ⟨259,0,277,75⟩ (lO w.params) 291 2729 19749:=by
 rw [aBw]
 exact bQ.mono ((bQ.of (g0 w)).app ((bQ.of (g1 w)).app ((bQ.of (g2 w)).app ((bQ.of (g3 w)).app ((bQ.of (g4 w)).app ((bQ.of (g5 w)).app ((bQ.of (g6 w)).app ((show bQ w _ _ _ _ _ _ _ _ _ _ from g7 w).app ((bQ.of (g8 w)).app ((bQ.of (g9 w)).app ((bQ.of (g10 w)).app ((bQ.of (g11 w)).app ((bQ.of (g12 w)).app ((bQ.of (g13 w)).app ((bQ.of (g14 w)).app ((bQ.of (g15 w)).app ((bQ.of (g16 w)).app (bQ.of (g17 w))))))))))))))))))) (by decide)
noncomputable abbrev c91 (w:World):fP:=oP kM pw w 11 (some (.ref 6)) 91
theorem aBy (w:World):go (cQ pw w 11 (some (.ref 6))) pw w 11 (some (.ref 6)) dW fC (blockStart (behindTheImports pw) bT) ⟨0,0,0,0⟩ (tr0 w.params) 15 187 0=some (.ok (),⟨0,0,0,0⟩,tr0 w.params,15,187,0):=by kernel_rfl
theorem aBz:kM dW=(blockStart (behindTheImports pw) bT>>=fun zz=>((execs (behindTheImports pw) bT).onRaise (PySem.leaving bT))>>=fun f=>(pure (.done f):Sem Fin)):=by
 rw [←GB]
 rfl
theorem aB0 (w:World):∀c,∃e,e≤19749+1∧c91 w dW fC ⟨0,0,0,0⟩ (tr0 w.params) 15 187 c=some (.ok .next,lO w.params,291,2729,c+e):=fun c=>by
 obtain ⟨e,h1,h2⟩:=aBx w c
 refine ⟨e+1,by omega,?_⟩
 have key:go (cQ pw w 11 (some (.ref 6))) pw w 11 (some (.ref 6)) dW fC (kM dW) ⟨0,0,0,0⟩ (tr0 w.params) 15 187 c=some (.ok (.done .next),⟨259,0,277,75⟩,lO w.params,291,2729,c+e):=by
  rw [aBz,iP,(by simpa using uL (oS _) _ c (aBy w):go (cQ pw w 11 (some (.ref 6))) pw w 11 (some (.ref 6)) dW fC (blockStart (behindTheImports pw) bT) ⟨0,0,0,0⟩ (tr0 w.params) 15 187 c=some (.ok (),⟨0,0,0,0⟩,tr0 w.params,15,187,c))]
  show go (cQ pw w 11 (some (.ref 6))) pw w 11 (some (.ref 6)) dW fC (((execs (behindTheImports pw) bT).onRaise (PySem.leaving bT))>>=fun f=>(pure (.done f):Sem Fin)) ⟨0,0,0,0⟩ (tr0 w.params) 15 187 c=_
  rw [iP,GJ _ h2]
  rfl
 exact aAo key
noncomputable def AQ:Sem (Value × Addr):=do
 let code ←moduleCode pw.main
 let frame ←newBodyFrame code mainNs mainNs
 pure (code,frame)
noncomputable def uY:Sem Fin:=do
 let code ←moduleCode pw.main
 let frame ←newBodyFrame code mainNs mainNs
 let _ ←run (.body (behindTheImports pw) {scope:=pw.main.scope,locals:=mainNs,globals:=mainNs,cells:=[],code,frame:=some frame})
 ret .none
theorem aB1:uY=(AQ>>=fun x=>run (.body (behindTheImports pw) {scope:=pw.main.scope,locals:=mainNs,globals:=mainNs,cells:=[],code:=x.1,frame:=some x.2})>>=fun zz=>ret .none):=by
 unfold uY AQ
 rw [AP]
 congr 1
 funext code
 rw [AP]
 rfl
noncomputable def uZ (P:Params):BT:=(.node (PySem.W.boot_o_0 P) (.node (PySem.W.boot_o_1 P) (.node (PySem.W.boot_o_3 P) (.node (PySem.W.boot_o_7 P) .nil .nil) .nil) (.node (PySem.W.boot_o_5 P) (.node (PySem.W.boot_o_9 P) .nil .nil) .nil)) (.node (PySem.W.boot_o_2 P) (.node (PySem.W.boot_o_4 P) (.node (PySem.W.boot_o_8 P) .nil .nil) .nil) (.node (PySem.W.boot_o_6 P) (.node (PySem.W.boot_o_10 P) .nil .nil) .nil)))
theorem aB2 (w:World):go (c91 w) pw w 11 (some (.ref 6)) (.builtin "claim.caller" {}) [] AQ default (uZ w.params) 11 181 0=some (.ok (.ref 13,14),⟨0,0,0,0⟩,tr0 w.params,15,187,11):=by kernel_rfl
theorem aB3 (w:World):∃e,e≤19749+20∧∃q',go (c91 w) pw w 11 (some (.ref 6)) (.builtin "claim.caller" {}) [] uY default (uZ w.params) 11 181 0=some (.ok (.done (.ret .none)),q',lO w.params,291,2729,e):=by
 obtain ⟨e,h1,h2⟩:=aB0 w 12
 refine ⟨12+e,by omega,⟨0,0,0,0⟩,?_⟩
 rw [aB1,iP,aB2]
 show go (c91 w) pw w 11 (some (.ref 6)) (.builtin "claim.caller" {}) [] (run dW>>=fun zz=>ret .none) ⟨0,0,0,0⟩ (tr0 w.params) 15 187 11=_
 rw [iP,aAp h2]
 rfl
end
noncomputable section
theorem aB4 (P:Params):absHeap (uZ P) 11 {}=PySem.W.boot_heap P:=by kernel_rfl
theorem aB5 (P:Params):absHeap (lO P) 291 {}=hpF P:=by kernel_rfl
theorem aB6:PySem.W.boot_toks=181:=by kernel_rfl
theorem aB7 (w:World)(os:OsState):topRun treeTable pw w 11 (some (.ref 6)) 40000 ⟨PySem.W.boot_heap w.params,Array.mk [],PySem.W.boot_drawn,PySem.W.boot_toks,os⟩ (topStub pw)=some ⟨hpF w.params,Array.mk [],PySem.W.boot_drawn,2729,os⟩:=by
 obtain ⟨e,h1,q',h2⟩:=aB3 w
 have hc:yR pw w 11 (some (.ref 6)) PySem.W.boot_drawn os (c91 w):=by
  have:=ZM (p:=pw) (w:=w) (n₀:=11) (ann:=some (.ref 6)) (d:=PySem.W.boot_drawn) (os:=os) 91
  rw [GB] at this
  exact this
 obtain ⟨e',he,hr⟩:=GH hc uY _ _ _ _ _ _ h2
 have he:e=0+e':=he
 have h3:=hr .pure .raise id id [] rfl ⟨rfl,rfl⟩ 1 (St (lO w.params) 291 2729 PySem.W.boot_drawn os) rfl
 rw [GI] at h3
 have h4:=topRun_mono (40000-(e'+1)) _ _ _ _ h3
 rw [Nat.add_sub_cancel' (by clear h2 h3 h4 hr hc; omega)] at h4
 have e1:St (uZ w.params) 11 181 PySem.W.boot_drawn os=⟨PySem.W.boot_heap w.params,Array.mk [],PySem.W.boot_drawn,PySem.W.boot_toks,os⟩:=by
  unfold St; rw [aB4,aB6]
 have e2:St (lO w.params) 291 2729 PySem.W.boot_drawn os=⟨hpF w.params,Array.mk [],PySem.W.boot_drawn,2729,os⟩:=by
  unfold St; rw [aB5]
 rw [e1,e2] at h4
 exact h4
noncomputable def qv:Program:={pw with main:={pw.main with body:=part 0 2++part 3 1++part 5 3++part 9 1++part 11 53++part 65 22}}
noncomputable def looseV:List PySem.Str:=[PySem.Str.ofString "Whitespace",PySem.Str.ofString "COMPILER_FLAG_NAMES",PySem.Str.ofString "b1_set",PySem.Str.ofString "b3_exceptions",PySem.Str.ofString "EXACT_TOKEN_TYPES"]
noncomputable abbrev XtV:Shared→Bool:=fun s=>xlAt qv [] s && recOk [] s
noncomputable def sF (P:Params)(os:OsState):Shared:=⟨hpF P,Array.mk [],PySem.W.boot_drawn,2729,os⟩
theorem aB8:importedModules pw.main.body=[]:=by kernel_rfl
theorem l0 (w:World):(staticsOk [] (PySem.W.boot_heap w.params) (hpF w.params) && namesBound pw (hpF w.params) && laidKept (PySem.W.boot_heap w.params) (hpF w.params))=true:=by kernel_rfl
theorem l1 (w:World)(os:OsState):seen ((recsOf qv).map (·.name)) (ownsOf qv) [] {sF w.params os with gens:=#[]}=expectedOf qv:=by kernel_rfl
theorem l2 (w:World)(os:OsState):(sF w.params os).heap.bltView=bltViewBooted:=by kernel_rfl
theorem l3 (w:World)(os:OsState):((sF w.params os).heap.keysOk (looseW qv looseV) ((recsOf qv).map (·.name)) ((litsOf qv).map (·.1)) ((clssOf qv (looseW qv looseV)).map (·.name)) && (sF w.params os).heap.accountedOkI [] && (sF w.params os).heap.isNs mainGlobals && (sF w.params os).heap.isNs builtinsNs && tablesOk qv (sF w.params os).heap && XtV (sF w.params os) && (sF w.params os).gens.size==0)=true:=by kernel_rfl
theorem l4 (w:World)(os:OsState):tabsOk qv (sF w.params os)=true:=by kernel_rfl
theorem l5 (w:World)(os:OsState):pinSeenD qv (drecsOf qv) (sF w.params os)=pinGoodD (drecsOf qv):=by kernel_rfl
theorem l6 (w:World)(os:OsState):plainSeenE qv (looseW qv looseV) (sF w.params os)=plainGoodE qv (looseW qv looseV):=by kernel_rfl
theorem l7 (w:World)(os:OsState):plainSeenD qv looseV (sF w.params os)=plainGoodD qv looseV:=by kernel_rfl
theorem l8 (w:World)(os:OsState):wideSeen qv (sF w.params os)=wideGood qv:=by kernel_rfl
theorem l9 (w:World)(os:OsState):clsSeenW qv looseV (sF w.params os)=clsGoodW qv looseV:=by kernel_rfl
end
noncomputable section
theorem aB9 (w:World):((PySem.W.boot_heap w.params).isNs mainGlobals && (Array.mk []:Array GenState).size==0,(PySem.W.boot_heap w.params).objs.size,(PySem.W.boot_heap w.params).nsMap mainGlobals "__annotations__")=(true,11,some (Value.ref 6)):=by kernel_rfl
theorem aBA (w:World):(fun os=>((staticsOk (importedModules pw.main.body) (PySem.W.boot_heap w.params) (hpF w.params) && namesBound pw (hpF w.params) && gensDone ⟨hpF w.params,Array.mk [],PySem.W.boot_drawn,2729,os⟩ && laidKept (PySem.W.boot_heap w.params) (hpF w.params)),
    openSeen qv looseV (importedModules pw.main.body) XtV true ⟨hpF w.params,Array.mk [],PySem.W.boot_drawn,2729,os⟩,Shared.heap ⟨hpF w.params,Array.mk [],PySem.W.boot_drawn,2729,os⟩))=fun zz=>(true,openGood qv looseV,hpF w.params):=by
 funext os
 rw [aB8]
 refine looks_pair ?_ (looks_pair ?_ rfl)
 ·have h:=l0 w
  simp only [Bool.and_eq_true] at h ⊢
  exact ⟨⟨⟨h.1.1,h.1.2⟩,rfl⟩,h.2⟩
 ·exact looks_pair (l1 w os) (looks_pair (l2 w os) (looks_pair (l3 w os) (looks_pair (l4 w os) (looks_pair (l5 w os) (looks_pair (l6 w os) (looks_pair (l7 w os) (looks_pair (l8 w os) (l9 w os))))))))
theorem iA:LeftO pw qv looseV XtV (fun s=>s.heap) (fun w=>hpF w.params) 40000:=
 LeftO.of_pieces (H₀:=PySem.W.boot_heap) (H₁:=hpF) (gs₀:=Array.mk []) (gs₁:=Array.mk []) (d₀:=PySem.W.boot_drawn) (d₁:=PySem.W.boot_drawn) (k₀:=PySem.W.boot_toks) (k₁:=2729) (m₀:=11) (ann:=some (.ref 6)) (M:=40000)
  (boot_open (by kernel_rfl) (by decide) (fun s=>by kernel_rfl)) aB9 aB7 (by decide) aBA
end
noncomputable section
noncomputable def lawD:DefRec:=⟨PySem.Str.ofString "law",fArgs (stN 86),fBody (stN 86),fScope (stN 86),⟨259,0,277,75⟩⟩
theorem aBB:defOf qv (PySem.Str.ofString "law")=some (lawD,[]):=by kernel_rfl
theorem aBC:pw.theDef (PySem.Str.ofString "law")=some (lawD.params,lawD.body,lawD.scope):=by kernel_rfl
theorem aBD:kwWritten? lawD.params.kwonlyargs lawD.params.kw_defaults=some []:=by kernel_rfl
theorem okV:(chainsOk qv && opensWell pw && (frees PySem.Challenge.rw_sr0089_01.row.toRowW && PySem.Challenge.rw_sr0089_01.row.within.isEmpty))=true:=by kernel_rfl
theorem aBE:pw.bare:=⟨rfl,rfl,rfl,rfl,rfl,by decide +kernel⟩
noncomputable abbrev YPv (w:World)(h:Heap):Prop:=∀b o,(hpF w.params).get? b=some o→h.get? b=some o
theorem aBF:OpenLaw.wellSaid PySem.Challenge.rw_sr0089_01=true:=by kernel_rfl
theorem holds_of (walk:WalkO qv looseV (XL qv []) YPv PySem.Challenge.rw_sr0089_01.row.toRowW lawD [] fun f vs=>PySem.call f vs):PySem.Challenge.rw_sr0089_01.Holds:=by
 refine holds_law aBF fun said'=>?_
 refine PySem.W.holds_open (r:=PySem.Challenge.rw_sr0089_01.row) (q:=qv) (loose:=looseV) (Xt:=XtV) (XP:=XL qv []) (Yf:=fun s=>s.heap) (Ya:=fun w=>hpF w.params) (YP:=YPv) (N:=40000) iA (fun w s e b o h=>by rw [e]; exact h) (fun w h h' y k b o e=>k b o (y b o e)) (fun s e=>xl_of s (Bool.and_eq_true_iff.mp e).1) XL.keeps aBB aBC aBD (fun s e=>recFacts_of (Bool.and_eq_true_iff.mp e).2) (by rfl) (by assumption) okV aBE ?hw walk
 w_witness2
end
end Mine.G
namespace Mine.V
open PySem PySem.W PyProof.Rows
set_option genSizeOfSpec false
inductive PV where
 |none
 |bool (b:Bool)
 |int (i:Int)
 |str (s:List Nat)
 |bytes (b:List Nat)
 |list (xs:List PV)
 |tuple (xs:List PV)
 |inst (fs:List (List Nat × PV))
inductive Slot where
 |fz (d:PV)
 |own (xs:List PV)
 |iter (t:Option Nat) (xs:List PV)
 |self (fs:List (List Nat × PV))
 |own2 (t:List (List Int))
inductive EV where
 |v (d:PV)
 |h (xs:List PV)
noncomputable abbrev Nm:=List Nat
noncomputable abbrev Sg:=List (Nm × Slot)
noncomputable def aC:List Nat→List Nat→Bool
 |[],[]=>true
 |a::l,b::m=>(a==b) && aC l m
 |_,_=>false
noncomputable def aD {α:Type}(x:Nm):List (Nm × α)→Option α
 |[]=>none
 |p::r=>bif aC p.1 x then some p.2 else aD x r
noncomputable def aU {α:Type}(x:Nm)(v:α):List (Nm × α)→List (Nm × α)
 |[]=>[(x,v)]
 |p::r=>bif aC p.1 x then (p.1,v)::r else p::aU x v r
noncomputable def gH (x:Nm):List Nm→Bool
 |[]=>false
 |y::r=>aC y x || gH x r
noncomputable def vA:List Nat:=[108,101,110]
noncomputable def fG:List Nat:=[114,97,110,103,101]
noncomputable def sV:List Nat:=[109,97,120]
noncomputable def vC:List Nat:=[115,117,109]
noncomputable def iV:List Nat:=[122,105,112]
noncomputable def sW:List Nat:=[115,111,114,116,101,100]
noncomputable def sX:List Nat:=[111,114,100]
noncomputable def vE:List Nat:=[99,104,114]
noncomputable def vF:List Nat:=[114,101,112,114]
noncomputable def vH:List Nat:=[104,101,120]
noncomputable def fH:List Nat:=[108,105,115,116]
noncomputable def vI:List Nat:=[116,117,112,108,101]
noncomputable def AR:List Nat:=[98,121,116,101,115]
noncomputable def pR:List Nat:=[105,116,101,114]
noncomputable def pS:List Nat:=[110,101,120,116]
noncomputable def aBG:List Nat:=[97,112,112,101,110,100]
noncomputable def vJ:List Nat:=[106,111,105,110]
noncomputable def AS:List Nat:=[103,101,116]
noncomputable def PF:List Nat:=[108,111,119,101,114]
noncomputable def AT:List Nat:=[115,112,108,105,116]
noncomputable def fR:List Nat:=[87,104,105,116,101,115,112,97,99,101]
noncomputable def n_S:List Nat:=[83]
noncomputable def n_T:List Nat:=[84]
noncomputable def AU:List Nat:=[98,51,95,101,120,99,101,112,116,105,111,110,115]
noncomputable def AV:List Nat:=[98,49,95,115,101,116]
noncomputable def vK:List Nat:=[69,88,65,67,84,95,84,79,75,69,78,95,84,89,80,69,83]
noncomputable def AW:List Nat:=[67,79,77,80,73,76,69,82,95,70,76,65,71,95,78,65,77,69,83]
noncomputable def asI (d:PV):Option Int:=PV.casesOn (motive_1:=fun zz=>Option Int) d none (fun zz=>none) some (fun zz=>none) (fun zz=>none) (fun zz=>none) (fun zz=>none) (fun zz=>none)
noncomputable def asB (d:PV):Option Bool:=PV.casesOn (motive_1:=fun zz=>Option Bool) d none some (fun zz=>none) (fun zz=>none) (fun zz=>none) (fun zz=>none) (fun zz=>none) (fun zz=>none)
noncomputable def asS (d:PV):Option (List Nat):=PV.casesOn (motive_1:=fun zz=>Option (List Nat)) d none (fun zz=>none) (fun zz=>none) some (fun zz=>none) (fun zz=>none) (fun zz=>none) (fun zz=>none)
noncomputable def asL (d:PV):Option (List PV):=PV.casesOn (motive_1:=fun zz=>Option (List PV)) d none (fun zz=>none) (fun zz=>none) (fun zz=>none) (fun zz=>none) some (fun zz=>none) (fun zz=>none)
noncomputable def aBH (d:PV):Option (List PV):=PV.casesOn (motive_1:=fun zz=>Option (List PV)) d none (fun zz=>none) (fun zz=>none) (fun zz=>none) (fun zz=>none) some some (fun zz=>none)
noncomputable def asF (d:PV):Option (List (List Nat × PV)):=PV.casesOn (motive_1:=fun zz=>Option (List (List Nat × PV))) d none (fun zz=>none) (fun zz=>none) (fun zz=>none) (fun zz=>none) (fun zz=>none) (fun zz=>none) some
noncomputable def one {α:Type}(l:List α):Option α:=List.casesOn (motive:=fun zz=>Option α) l none fun a r=>List.casesOn (motive:=fun zz=>Option α) r (some a) fun zz zz=>none
noncomputable def two {α:Type}(l:List α):Option (α × α):=List.casesOn (motive:=fun zz=>Option (α × α)) l none fun a r=>(one r).map fun b=>(a,b)
noncomputable def vM (d:PV):Option (PV × PV):=PV.casesOn (motive_1:=fun zz=>Option (PV × PV)) d none (fun zz=>none) (fun zz=>none) (fun zz=>none) (fun zz=>none) (fun zz=>none) two (fun zz=>none)
noncomputable def isN (d:PV):Bool:=PV.casesOn (motive_1:=fun zz=>Bool) d true (fun zz=>false) (fun zz=>false) (fun zz=>false) (fun zz=>false) (fun zz=>false) (fun zz=>false) (fun zz=>false)
noncomputable def bP {α:Type}(l:List α):Bool:=List.casesOn (motive:=fun zz=>Bool) l true fun zz zz=>false
noncomputable def eqI (a:Int)(d:PV):Bool:=PV.casesOn (motive_1:=fun zz=>Bool) d false (fun b=>a==(if b then 1 else 0)) (fun b=>a==b) (fun zz=>false) (fun zz=>false) (fun zz=>false) (fun zz=>false) (fun zz=>false)
noncomputable def aBI (a:Bool)(d:PV):Bool:=PV.casesOn (motive_1:=fun zz=>Bool) d false (fun b=>a==b) (fun b=>(if a then 1 else 0)==b) (fun zz=>false) (fun zz=>false) (fun zz=>false) (fun zz=>false) (fun zz=>false)
noncomputable def aBJ (a:List Nat)(d:PV):Bool:=PV.casesOn (motive_1:=fun zz=>Bool) d false (fun zz=>false) (fun zz=>false) (fun b=>aC a b) (fun zz=>false) (fun zz=>false) (fun zz=>false) (fun zz=>false)
noncomputable def onL (f:List PV→Bool)(d:PV):Bool:=PV.casesOn (motive_1:=fun zz=>Bool) d false (fun zz=>false) (fun zz=>false) (fun zz=>false) (fun zz=>false) f (fun zz=>false) (fun zz=>false)
noncomputable def onT (f:List PV→Bool)(d:PV):Bool:=PV.casesOn (motive_1:=fun zz=>Bool) d false (fun zz=>false) (fun zz=>false) (fun zz=>false) (fun zz=>false) (fun zz=>false) f (fun zz=>false)
noncomputable def onC (f:PV→Bool)(g:List PV→Bool)(l:List PV):Bool:=List.casesOn (motive:=fun zz=>Bool) l false fun a r=>f a && g r
mutual
noncomputable def eqD:PV→PV→Bool
 |.none=>isN
 |.bool a=>aBI a
 |.int a=>eqI a
 |.str a=>aBJ a
 |.bytes _=>fun zz=>false
 |.list a=>onL (eqDs a)
 |.tuple a=>onT (eqDs a)
 |.inst _=>fun zz=>false
noncomputable def eqDs:List PV→List PV→Bool
 |[]=>bP
 |a::l=>onC (eqD a) (eqDs l)
end
noncomputable def ok0 (f:List PV→Bool)(d:PV):Bool:=PV.casesOn (motive_1:=fun zz=>Bool) d true (fun zz=>true) (fun zz=>true) (fun s=>s.all fun c=>decide (c<1114112)) (fun zz=>false) f f (fun zz=>false)
noncomputable def okN:Nat→PV→Bool
 |0=>ok0 fun zz=>false
 |n+1=>ok0 fun xs=>xs.all (okN n)
noncomputable def pT (a b:PV):Option Bool:=bif okN 8 a && okN 8 b then some (eqD a b) else none
noncomputable def vN (d:PV):Option Bool:=PV.casesOn (motive_1:=fun zz=>Option Bool) d (some false) some (fun i=>some (i != 0)) (fun zz=>none) (fun zz=>none) (fun zz=>none) (fun zz=>none) (fun zz=>none)
noncomputable def EV.pv (d:EV):PV:=EV.casesOn (motive:=fun zz=>PV) d id .list
noncomputable def rep {α:Type}:Nat→List α→List α
 |0,_=>[]
 |n+1,l=>l++rep n l
theorem PG {α:Type}(n:Nat)(l:List α):rep (n+1) l=l++rep n l:=rfl
noncomputable def bG (n:Nat):Bool:=decide (n≤16777216)
noncomputable def PH (op:Operator)(x y:Int):Option Int:=
 match op with
 |.Add=>some (x+y)
 |.Sub=>some (x-y)
 |.Mult=>bif decide (x.natAbs.log2<1000000) && decide (y.natAbs.log2<1000000) then some (x*y) else none
 |.FloorDiv=>bif !(y==0) && decide (y.natAbs.log2<9000) then some (x.fdiv y) else none
 |.Mod=>bif y==0 then none else some (x.fmod y)
 |.LShift=>bif decide (0≤y) && decide (y≤1000000) && decide (x.natAbs<2 ^ 64) then some (x*2 ^ y.toNat) else none
 |.RShift=>bif decide (0≤y) then some (x.fdiv (2 ^ y.toNat)) else none
 |.BitAnd=>some (Builtin.bitAnd x y)
 |.BitOr=>some (Builtin.bitOr x y)
 |.BitXor=>some (Builtin.bitXor x y)
 |_=>none
noncomputable def PI {α:Type}(x:List α)(n:Int):Option (List α):=bif decide (n<65536) && bG (x.length*n.toNat) && decide (-65536<n) then some (rep n.toNat x) else none
noncomputable def mX {α:Type}(x y:List α):Option (List α):=bif bG (x.length+y.length) then some (x++y) else none
noncomputable def PJ {α:Type}(as:PV→Option (List α))(mk:List α→PV)(op:Operator)(x:List α)(b:PV):Option PV:=
 match op with
 |.Add=>(as b).bind fun y=>(mX x y).map mk
 |.Mult=>(asI b).bind fun n=>(PI x n).map mk
 |_=>none
noncomputable def AX (op:Operator)(a b:PV):Option PV:=PV.casesOn (motive_1:=fun zz=>Option PV) a none (fun zz=>none) (fun x=>(asI b).bind fun y=>(PH op x y).map .int) (fun x=>PJ asS .str op x b) (fun zz=>none) (fun x=>PJ asL .list op x b) (fun zz=>none) (fun zz=>none)
noncomputable def atI {α:Type}(xs:List α)(i:Int):Option α:=
 bif !(decide (i.natAbs≤16777216)) then none else bif decide (0≤i) then xs[i.toNat]? else bif decide (0≤i+xs.length) then xs[(i+xs.length).toNat]? else none
noncomputable def iB {α:Type}(xs:List α)(i:Int)(v:α):Option (List α):=
 bif !(decide (i.natAbs≤16777216)) then none else bif decide (0≤i) && decide (i<xs.length) then some (xs.set i.toNat v)
 else bif decide (i<0) && decide (0≤i+xs.length) then some (xs.set (i+xs.length).toNat v) else none
noncomputable def aBK (c:Const):Option PV:=Const.casesOn (motive:=fun zz=>Option PV) c (some .none) (fun b=>some (.bool b)) (fun i=>some (.int i)) (fun zz=>none) (fun zz zz=>none) (fun s=>some (.str s.cps.toList)) (fun zz=>none) none
noncomputable def AY (a:PV)(xs:List PV):Option Bool:=
 bif okN 8 (.list xs) && okN 8 a then some (xs.any fun y=>eqD y a) else none
noncomputable def isP (a b:PV):Option Bool:=PV.casesOn (motive_1:=fun zz=>Option Bool) a (bif isN b then some true else none) (fun x=>(asB b).map fun y=>x==y) (fun zz=>none) (fun zz=>bif isN b then some false else none) (fun zz=>none) (fun zz=>none) (fun zz=>none) (fun zz=>none)
noncomputable def ltP (f:Int→Int→Bool)(a b:PV):Option Bool:=(asI a).bind fun x=>(asI b).map fun y=>f x y
noncomputable def PK (op:CmpOp)(a b:PV):Option Bool:=
 match op with
 |.Eq=>pT a b
 |.NotEq=>(pT a b).map (!·)
 |.Is=>isP a b
 |.IsNot=>bif (asB a).isSome then none else (isP a b).map (!·)
 |.In=>(asL b).bind (AY a)
 |.NotIn=>(asL b).bind fun xs=>(AY a xs).map (!·)
 |.Lt=>ltP (fun x y=>decide (x<y)) a b
 |.LtE=>ltP (fun x y=>decide (x≤y)) a b
 |.Gt=>ltP (fun x y=>decide (x > y)) a b
 |.GtE=>ltP (fun x y=>decide (x≥y)) a b
noncomputable def pU (a st:Int):Nat→List PV
 |0=>[]
 |n+1=>.int a::pU (a+st) st n
noncomputable def vO (a b st:Int):Option (List PV):=
 bif Builtin.Range.small a b st && !(st==0) && decide (st.natAbs.log2<9000) && decide (0≤Builtin.Range.rangeSize a b st) && decide (Builtin.Range.rangeSize a b st≤16777216) then some (pU a st (Builtin.Range.rangeSize a b st).toNat) else none
noncomputable def eH:List PV→Option (List Int)
 |[]=>some []
 |d::r=>(asI d).bind fun i=>(eH r).map (i::·)
noncomputable def PL (l:List Int):Option (List PV):=List.casesOn (motive:=fun zz=>Option (List PV)) l none fun a r=>List.casesOn (motive:=fun zz=>Option (List PV)) r (vO 0 a 1) fun b r=>List.casesOn (motive:=fun zz=>Option (List PV)) r (vO a b 1) fun c r=>bif bP r then vO a b c else none
noncomputable def vP (o:Option (List PV)):Option (List PV):=o.bind fun l=>(eH l).bind PL
noncomputable def AZ (d:PV):Option (List PV):=PV.casesOn (motive_1:=fun zz=>Option (List PV)) d none (fun zz=>none) (fun zz=>none) (fun s=>some (s.map fun c=>.str [c])) (fun zz=>none) some (fun zz=>none) (fun zz=>none)
noncomputable def pV:List PV→Option (List (List Int))
 |[]=>some []
 |d::r=>((asL d).bind eH).bind fun l=>(pV r).map (l::·)
noncomputable def vQ (r xs ys:List PV):List PV:=(List.range r.length).map fun k=>.tuple [r.getD k .none,xs.getD k .none,ys.getD k .none]
noncomputable def pW:List PV→Option (List (List PV))
 |[]=>some []
 |d::r=>(asL d).bind fun l=>(pW r).map (l::·)
noncomputable def eI:List (List PV)→Option (List PV)
 |[]=>some []
 |l::r=>List.casesOn (motive:=fun zz=>Option (List PV)) l none fun a zz=>(eI r).map (a::·)
noncomputable def lP:Nat→List (List PV)→List PV
 |0,_=>[]
 |n+1,ls=>Option.casesOn (motive:=fun zz=>List PV) (eI ls) [] fun hs=>.tuple hs::lP n (ls.map List.tail)
theorem BA (n:Nat)(ls:List (List PV)):lP (n+1) ls=Option.casesOn (motive:=fun zz=>List PV) (eI ls) [] fun hs=>.tuple hs::lP n (ls.map List.tail):=rfl
noncomputable def PM (ls:List (List PV)):Option (List PV):=List.casesOn (motive:=fun zz=>Option (List PV)) ls none fun a r=>bif bP r || decide (7<r.length) then none else some (lP (a.length+1) (a::r))
noncomputable def aBL (o:Option (List PV)):Option (List PV):=o.bind fun l=>(pW l).bind PM
noncomputable def sY:Int→List PV→Option PV
 |m,[]=>some (.int m)
 |m,d::r=>(asI d).bind fun x=>sY (bif decide (m<x) then x else m) r
noncomputable def vR:Int→List PV→Option PV
 |m,[]=>some (.int m)
 |m,d::r=>(asI d).bind fun x=>vR (m+x) r
mutual
noncomputable def toD:PV→PyData
 |.none=>.none
 |.bool b=>.bool b
 |.int i=>.int i
 |.str s=>.str ⟨s.toArray⟩
 |.bytes _=>.dict []
 |.list xs=>.list (toDs xs)
 |.tuple xs=>.tuple (toDs xs)
 |.inst _=>.dict []
noncomputable def toDs:List PV→List PyData
 |[]=>[]
 |x::r=>toD x::toDs r
end
noncomputable def BB (d:PV):Option (List Nat):=(asL d).bind fun xs=>bif okN 8 (.list xs) && (toD (.list xs)).showable && !(toD (.list xs)).hasDict && bG (toD (.list xs)).shown.length then some (toD (.list xs)).shown.cps.toList else none
noncomputable def PN (i:Int):Option (List Nat):=bif bG (baseText "0x" 16 i).length then some (baseText "0x" 16 i).cps.toList else none
noncomputable def lQ:List PV→Option (List PySem.Str)
 |[]=>some []
 |d::r=>(asS d).bind fun x=>(lQ r).map (⟨x.toArray⟩::·)
theorem aBM (d:PV)(r:List PV):lQ (d::r)=(asS d).bind fun x=>(lQ r).map (⟨x.toArray⟩::·):=rfl
noncomputable def mY (x:Int):List Int→List Int
 |[]=>[x]
 |y::r=>bif decide (x≤y) then x::y::r else y::mY x r
theorem aBN (x y:Int)(r:List Int):mY x (y::r)=bif decide (x≤y) then x::y::r else y::mY x r:=rfl
noncomputable def lR:List Int→List Int
 |[]=>[]
 |x::r=>mY x (lR r)
theorem aBO (x:Int)(r:List Int):lR (x::r)=mY x (lR r):=rfl
noncomputable def iW (x:PySem.Str):List PySem.Str→List PySem.Str
 |[]=>[x]
 |y::r=>bif Spec.ltCps y.cps.toList x.cps.toList then y::iW x r else x::y::r
theorem BC (x y:PySem.Str)(r:List PySem.Str):iW x (y::r)=bif Spec.ltCps y.cps.toList x.cps.toList then y::iW x r else x::y::r:=rfl
noncomputable def fS:List PySem.Str→List PySem.Str
 |[]=>[]
 |x::r=>iW x (fS r)
theorem aBP (x:PySem.Str)(r:List PySem.Str):fS (x::r)=iW x (fS r):=rfl
noncomputable def iX (x:PySem.Str):PV:=.str x.cps.toList
noncomputable def sZ (sep:List Nat)(xs:List PV):Option (List Nat):=(lQ xs).bind fun ys=>
 bif decide ((ys.map (·.length)).sum+ys.length*sep.length≤16777216) then some (Txt.join ⟨sep.toArray⟩ ys).cps.toList else none
noncomputable def lT (xs:List PV):Option (List PV):=Option.casesOn (motive:=fun zz=>Option (List PV)) (eH xs) ((lQ xs).map fun ss=>(fS ss).map iX) fun ns=>some ((lR ns).map .int)
noncomputable def mZ:List PV→Option (List Nat)
 |[]=>some []
 |d::r=>(asI d).bind fun i=>bif decide (0≤i) && decide (i<256) then (mZ r).map (i.toNat::·) else none
noncomputable def PO (x:PySem.Str):Option (List PV):=
 bif bG x.length && bG (PySem.Builtin.Str.spaceWords x (x.length+1)).length then some ((Txt.words x).map iX) else none
noncomputable def PP (x y:PySem.Str):Option (List PV):=
 bif bG x.length && !(y.length==0) && bG (PySem.Builtin.Str.partsBetween x (PySem.Builtin.Str.occurrences x y 0 x.length (x.length+1)) y.length).length then some ((Txt.split x y).map iX) else none
noncomputable def PQ (x:PySem.Str):Option PV:=bif decide (x.length≤5592405) then some (iX (Txt.lower x)) else none
noncomputable def PS (d:PV):Option Nat:=PV.casesOn (motive_1:=fun zz=>Option Nat) d none (fun zz=>none) (fun zz=>none) (fun s=>some s.length) (fun zz=>none) (fun s=>some s.length) (fun s=>some s.length) (fun zz=>none)
noncomputable def PT (d:PV):Option PV:=(asL d).bind fun l=>List.casesOn (motive:=fun zz=>Option PV) l none fun d r=>(asI d).bind fun x=>sY x r
noncomputable def aBQ (a b:PV):Option PV:=(asI a).bind fun a=>(asI b).map fun b=>.int (bif decide (a<b) then b else a)
noncomputable def aBR (l:List PV):Option PV:=List.casesOn (motive:=fun zz=>Option PV) l none fun a r=>List.casesOn (motive:=fun zz=>Option PV) r (PT a) fun b r=>bif bP r then aBQ a b else none
noncomputable def bi1 (f:PV→Option PV)(l:List PV):Option PV:=(one l).bind f
noncomputable def tA (f:Nm)(args:List PV):Option PV:=
 bif aC f vA then bi1 (fun d=>(PS d).bind fun n=>bif bG n then some (.int n) else none) args
 else bif aC f sV then aBR args
 else bif aC f vC then bi1 (fun d=>(asL d).bind (vR 0)) args
 else bif aC f sX then bi1 (fun d=>(asS d).bind fun s=>(one s).map fun (c:Nat)=>PV.int c) args
 else bif aC f vE then bi1 (fun d=>(asI d).bind fun i=>bif decide (0≤i) && decide (i<1114112) then some (.str [i.toNat]) else none) args
 else bif aC f sW then bi1 (fun d=>(asL d).bind fun xs=>bif decide (xs.length<64) then (lT xs).map .list else none) args
 else bif aC f vF then bi1 (fun d=>(BB d).map .str) args
 else bif aC f vH then bi1 (fun d=>(asI d).bind fun i=>(PN i).map .str) args
 else bif aC f vI then bi1 (fun d=>(asL d).bind fun xs=>bif bG xs.length then some (.tuple xs) else none) args
 else bif aC f AR then bi1 (fun d=>(asL d).bind fun xs=>bif bG xs.length then (mZ xs).map .bytes else none) args
 else none
noncomputable def PU (m:Nm)(s:List Nat)(args:List PV):Option PV:=List.casesOn (motive:=fun zz=>Option PV) args
 (bif aC m AT then (PO ⟨s.toArray⟩).map .list else bif aC m PF then PQ ⟨s.toArray⟩ else none)
 fun a r=>bif !(bP r) then none else bif aC m vJ then (asL a).bind fun xs=>(sZ s xs).map .str else bif aC m AT then (asS a).bind fun y=>(PP ⟨s.toArray⟩ ⟨y.toArray⟩).map .list else none
noncomputable def BD (m:Nm)(o:PV)(args:List PV):Option PV:=PV.casesOn (motive_1:=fun zz=>Option PV) o none (fun zz=>none) (fun zz=>none) (fun s=>PU m s args) (fun zz=>none) (fun zz=>none) (fun zz=>none) (fun zz=>none)
noncomputable def pX {α:Type}(xs:List α)(lo hi st:Option Int):Option (List α):=
 bif decide (st=some 0) then none else some ((sliceRange (sliceBounds lo hi st xs.length).1 (sliceBounds lo hi st xs.length).2.1 (sliceBounds lo hi st xs.length).2.2).filterMap (xs[·]?))
noncomputable def szB (d:PV):Bool:=PV.casesOn (motive_1:=fun zz=>Bool) d true (fun zz=>true) (fun zz=>true) (fun l=>bG l.length) (fun l=>bG l.length) (fun l=>bG l.length) (fun l=>bG l.length) (fun zz=>true)
noncomputable def mkV (d:PV):Option EV:=bif szB d then some (.v d) else none
noncomputable def atD (d:PV)(i:Int):Option EV:=PV.casesOn (motive_1:=fun zz=>Option EV) d none (fun zz=>none) (fun zz=>none) (fun xs=>(atI xs i).map fun c=>.v (.str [c])) (fun zz=>none) (fun xs=>(atI xs i).map .v) (fun xs=>(atI xs i).map .v) (fun zz=>none)
noncomputable def PW (x:EV)(i:Int):Option EV:=atD x.pv i
noncomputable def bB (o:Option EV):Option PV:=o.bind fun x=>EV.casesOn (motive:=fun zz=>Option PV) x some fun zz=>none
noncomputable def cV:List (Option EV)→Option (List PV)
 |[]=>some []
 |o::r=>(bB o).bind fun d=>(cV r).map (d::·)
noncomputable def iY:List (Option EV)→Option (List PV)
 |[]=>some []
 |o::r=>o.bind fun d=>(iY r).map (d.pv::·)
noncomputable def pY (a:PV):List CmpOp→List (Option EV)→Option Bool
 |[]=>fun zz=>none
 |op::r=>fun cs=>List.casesOn (motive:=fun zz=>Option Bool) cs none fun c cs=>c.bind fun b=>(PK op a b.pv).bind fun t=>bif bP r then (bif bP cs then some t else none) else bif t then pY b.pv r cs else some false
noncomputable def compLoop (f:PV→Option (List PV)):List PV→Option (List PV)
 |[]=>some []
 |x::r=>match f x with
  |none=>none
  |some a=>match compLoop f r with
   |none=>none
   |some b=>some (a++b)
theorem BE (f:PV→Option (List PV)):compLoop f []=some []:=rfl
theorem nA (f:PV→Option (List PV))(x:PV)(r:List PV):compLoop f (x::r)=match f x with
  |none=>none
  |some a=>match compLoop f r with
   |none=>none
   |some b=>some (a++b):=rfl
set_option genSizeOf false
set_option genInjectivity false
noncomputable def nm (s:PySem.Str):Nm:=s.cps.toList
noncomputable def mkS (x:Nm):PySem.Str:=⟨x.toArray⟩
noncomputable abbrev NP:=Nm × Pos
inductive Tg where
 |nm (x:Nm) (p:Pos)
 |tup (xs:List NP) (k:Nat) (p:Pos)
set_option genCtorIdx false
mutual
inductive E where
 |const (c:Const) (k:Nat) (p:Pos)
 |name (x:Nm) (p:Pos)
 |gname (x:Nm) (p:Pos)
 |bin (l:E) (op:Operator) (r:E) (p:Pos)
 |neg (x:E) (p:Pos)
 |not (x:E) (p:Pos)
 |bool (op:BoolOp) (xs:List E) (p:Pos)
 |ite (t a b:E) (p:Pos)
 |cmp (l:E) (ops:List CmpOp) (cs:List E) (p:Pos)
 |inS (l:E) (x:Nm) (xp p:Pos)
 |list (es:List E) (p:Pos)
 |tup (es:List E) (k:Nat) (p:Pos)
 |comp (elt:E) (g:Gn) (gs:List Gn) (sc:Scope) (p:Pos)
 |attr (o:Nm) (op:Pos) (a:Nm) (p:Pos)
 |cattr (o:Nm) (op:Pos) (a:Nm) (p:Pos)
 |sub (o i:E) (p:Pos)
 |tab (x:Nm) (xp:Pos) (i:E) (p:Pos)
 |slice (o:E) (lo hi st:Option E) (sp p:Pos)
 |callB (f:Nm) (fp:Pos) (es:List E) (p:Pos)
 |callD (f:Nm) (fp:Pos) (es:List E) (p:Pos)
 |lrange (fp gp:Pos) (es:List E) (rp p:Pos)
 |meth (o:E) (m:Nm) (ap:Pos) (es:List E) (p:Pos)
 |get (x:Nm) (xp ap:Pos) (es:List E) (p:Pos)
 |sub2 (x:Nm) (xp:Pos) (i:E) (ip:Pos) (j:E) (p:Pos)
 |lzip (fp zp gp:Pos) (es:List E) (rp:Pos) (x y:E) (zq p:Pos)
 |raw (e:Expr)
inductive Gn where
 |mk (t:Tg) (it:It) (ifs:List E)
inductive It where
 |val (e:E)
 |range (fp:Pos) (es:List E) (p:Pos)
 |zip (fp:Pos) (es:List E) (p:Pos)
end
inductive S where
 |ret (e:E) (p:Pos)
 |retL (it:Nm) (fp ip cp lp mp:Pos) (a b:E) (q p:Pos)
 |set (x:Nm) (xp:Pos) (e:E) (p:Pos)
 |iter (x:Nm) (xp:Pos) (y:Nm) (yp fp cp p:Pos)
 |next (x:Nm) (xp:Pos) (it:Nm) (ip fp cp p:Pos)
 |icall (x:Nm) (xp:Pos) (f:Nm) (fp:Pos) (it:Nm) (ip cp p:Pos)
 |many (x y:NP) (xs:List NP) (e:E) (p:Pos)
 |tup (xs:List NP) (k:Nat) (tp:Pos) (e:E) (p:Pos)
 |attr (o:Nm) (op:Pos) (a:Nm) (ap:Pos) (e:E) (p:Pos)
 |item (x:Nm) (xp:Pos) (i:E) (sp:Pos) (e:E) (p:Pos)
 |augN (x:Nm) (xp:Pos) (op:Operator) (e:E) (p:Pos)
 |item2 (x:Nm) (xp:Pos) (i:E) (ip:Pos) (j:E) (sp:Pos) (e:E) (p:Pos)
 |augI2 (x:Nm) (xp:Pos) (i:E) (ip:Pos) (j:E) (sp:Pos) (op:Operator) (e:E) (p:Pos)
 |app (x:Nm) (xp ap:Pos) (e:E) (cp p:Pos)
 |ife (t:E) (a b:List S) (p:Pos)
 |whl (t:E) (a b:List S) (p:Pos)
 |for (t:Tg) (it:It) (a b:List S) (p:Pos)
 |brk (p:Pos)
 |pass (p:Pos)
 |raw (s:Stmt)
set_option genCtorIdx true
noncomputable def NP.b (q:NP):Expr:=.Name (mkS q.1) q.2
noncomputable def Tg.b:Tg→Expr
 |.nm x p=>.Name (mkS x) p
 |.tup xs k p=>.Tuple (xs.map NP.b) k p
mutual
noncomputable def E.b:E→Expr
 |.const c k p=>.Constant c k p
 |.name x p=>.Name (mkS x) p
 |.gname x p=>.Name (mkS x) p
 |.bin l op r p=>.BinOp l.b op r.b p
 |.neg x p=>.UnaryOp .USub x.b p
 |.not x p=>.UnaryOp .Not x.b p
 |.bool op xs p=>.BoolOp op (bs xs) p
 |.ite t a b p=>.IfExp t.b a.b b.b p
 |.cmp l ops cs p=>.Compare l.b ops (bs cs) p
 |.inS l x xp p=>.Compare l.b [.In] [.Name (mkS x) xp] p
 |.list es p=>.List (bs es) p
 |.tup es k p=>.Tuple (bs es) k p
 |.comp elt g gs sc p=>.ListComp elt.b (g.b::gbs gs) sc p
 |.attr o op a p=>.Attribute (.Name (mkS o) op) (mkS a) p
 |.cattr o op a p=>.Attribute (.Name (mkS o) op) (mkS a) p
 |.sub o i p=>.Subscript o.b i.b p
 |.tab x xp i p=>.Subscript (.Name (mkS x) xp) i.b p
 |.slice o lo hi st sp p=>.Subscript o.b (.Slice (ob lo) (ob hi) (ob st) sp) p
 |.callB f fp es p=>.Call (.Name (mkS f) fp) (bs es) [] p
 |.callD f fp es p=>.Call (.Name (mkS f) fp) (bs es) [] p
 |.lrange fp gp es rp p=>.Call (.Name (mkS fH) fp) [.Call (.Name (mkS fG) gp) (bs es) [] rp] [] p
 |.meth o m ap es p=>.Call (.Attribute o.b (mkS m) ap) (bs es) [] p
 |.get x xp ap es p=>.Call (.Attribute (.Name (mkS x) xp) (mkS AS) ap) (bs es) [] p
 |.sub2 x xp i ip j p=>.Subscript (.Subscript (.Name (mkS x) xp) i.b ip) j.b p
 |.lzip fp zp gp es rp x y zq p=>.Call (.Name (mkS fH) fp) [.Call (.Name (mkS iV) zp) [.Call (.Name (mkS fG) gp) (bs es) [] rp,x.b,y.b] [] zq] [] p
 |.raw e=>e
noncomputable def bs:List E→List Expr
 |[]=>[]
 |e::r=>e.b::bs r
noncomputable def ob:Option E→Option Expr
 |none=>none
 |some e=>some e.b
noncomputable def Gn.b:Gn→Comprehension
 |.mk t it ifs=>⟨t.b,it.b,bs ifs,0⟩
noncomputable def gbs:List Gn→List Comprehension
 |[]=>[]
 |g::r=>g.b::gbs r
noncomputable def It.b:It→Expr
 |.val e=>e.b
 |.range fp es p=>.Call (.Name (mkS fG) fp) (bs es) [] p
 |.zip fp es p=>.Call (.Name (mkS iV) fp) (bs es) [] p
end
mutual
noncomputable def S.b:S→Stmt
 |.ret e p=>.Return (some e.b) p
 |.retL it fp ip cp lp mp a b q p=>.Return (some (.IfExp (.Compare (.Call (.Name (mkS fH) fp) [.Name (mkS it) ip] [] cp) [.Eq] [.List [] lp] mp) a.b b.b q)) p
 |.set x xp e p=>.Assign [.Name (mkS x) xp] e.b p
 |.iter x xp y yp fp cp p=>.Assign [.Name (mkS x) xp] (.Call (.Name (mkS pR) fp) [.Name (mkS y) yp] [] cp) p
 |.next x xp it ip fp cp p=>.Assign [.Name (mkS x) xp] (.Call (.Name (mkS pS) fp) [.Name (mkS it) ip] [] cp) p
 |.icall x xp f fp it ip cp p=>.Assign [.Name (mkS x) xp] (.Call (.Name (mkS f) fp) [.Name (mkS it) ip] [] cp) p
 |.many x y xs e p=>.Assign (x.b::y.b::xs.map NP.b) e.b p
 |.tup xs k tp e p=>.Assign [.Tuple (xs.map NP.b) k tp] e.b p
 |.attr o op a ap e p=>.Assign [.Attribute (.Name (mkS o) op) (mkS a) ap] e.b p
 |.item x xp i sp e p=>.Assign [.Subscript (.Name (mkS x) xp) i.b sp] e.b p
 |.augN x xp op e p=>.AugAssign (.Name (mkS x) xp) op e.b p
 |.item2 x xp i ip j sp e p=>.Assign [.Subscript (.Subscript (.Name (mkS x) xp) i.b ip) j.b sp] e.b p
 |.augI2 x xp i ip j sp op e p=>.AugAssign (.Subscript (.Subscript (.Name (mkS x) xp) i.b ip) j.b sp) op e.b p
 |.app x xp ap e cp p=>.Expr (.Call (.Attribute (.Name (mkS x) xp) (mkS aBG) ap) [e.b] [] cp) p
 |.ife t a b p=>.If t.b (sbs a) (sbs b) p
 |.whl t a b p=>.While t.b (sbs a) (sbs b) p
 |.for t it a b p=>.For t.b it.b (sbs a) (sbs b) p
 |.brk p=>.Break p
 |.pass p=>.Pass p
 |.raw s=>s
noncomputable def sbs:List S→List Stmt
 |[]=>[]
 |s::r=>s.b::sbs r
end
noncomputable abbrev Ks:=List (PySem.Str × NameKind)
noncomputable def dP (x:Nm):Ks→Option NameKind
 |[]=>none
 |p::r=>bif aC (nm p.1) x then some p.2 else dP x r
noncomputable def eQ:List Nat:=[95,95,100,101,98,117,103,95,95]
noncomputable def BF:List Nat:=[95,95,99,108,97,115,115,100,105,99,116,95,95]
noncomputable def cC (K:Ks)(x:Nm):Bool:=decide (dP x K=some .globalImplicit) && !(aC x eQ)
noncomputable def vS (f:Nm):Bool:=gH f [vA,sV,vC,sX,vE,sW,vF,vH,vI,AR]
structure R where
 e:E
 nm:Option NP:=none
 tup:Option Tg:=none
 sl:Option (Option E × Option E × Option E × Pos):=none
 call:Option (NP × List E × Option NP × Pos):=none
 attr:Option (E × Option NP × Nm × Pos):=none
 sub:Option (NP × E × Pos):=none
 sub2:Option (NP × E × Pos × E × Pos):=none
 app:Option (NP × Pos × E × Pos):=none
 nil:Option Pos:=none
 leq:Option (Pos × NP × Pos × Pos × Pos):=none
 ifx:Option ((Pos × NP × Pos × Pos × Pos) × E × E × Pos):=none
noncomputable def R.raw (e:Expr):R:={e:=.raw e}
noncomputable def BG:List R→Option (List NP)
 |[]=>some []
 |r::l=>r.nm.bind fun q=>(BG l).map (q::·)
noncomputable def es (l:List R):List E:=l.map R.e
noncomputable def atX (K:Ks)(r:R)(f g:NP→E)(h:E):E:=Option.casesOn (motive:=fun zz=>E) r.nm h fun q=>bif cC K q.1 then g q else f q
noncomputable def aBS (K:Ks)(o i:R)(p:Pos):R:=Option.casesOn (motive:=fun zz=>R) i.sl {e:=Option.casesOn (motive:=fun zz=>E) o.sub (atX K o (fun zz=>.sub o.e i.e p) (fun q=>.tab q.1 q.2 i.e p) (.sub o.e i.e p)) fun q=>bif cC K q.1.1 then .sub o.e i.e p else .sub2 q.1.1 q.1.2 q.2.1 q.2.2 i.e p,sub:=o.nm.map fun q=>(q,i.e,p),sub2:=o.sub.map fun q=>(q.1,q.2.1,q.2.2,i.e,p)} fun t=>{e:=.slice o.e t.1 t.2.1 t.2.2.1 t.2.2.2 p}
noncomputable def aBT (e:E):Option (Pos × List E × Pos):=match e with
 |.callD f gp es rp=>bif aC f fG then some (gp,es,rp) else none
 |_=>none
noncomputable def aBU (l:List E):Option ((Pos × List E × Pos) × E × E):=List.casesOn (motive:=fun zz=>Option ((Pos × List E × Pos) × E × E)) l none fun a r=>(aBT a).bind fun g=>(two r).map fun q=>(g,q.1,q.2)
noncomputable def aBV (r:R):Option (Pos × ((Pos × List E × Pos) × E × E) × Pos):=r.call.bind fun q=>bif aC q.1.1 iV then (aBU q.2.1).map fun z=>(q.1.2,z,q.2.2.2) else none
noncomputable def aBW (r:R):Option (Pos × List E × Pos):=r.call.bind fun q=>bif aC q.1.1 fG then some (q.1.2,q.2.1,q.2.2.2) else none
noncomputable def aBX (K:Ks)(f:R)(ts:List R)(p:Pos):R:=Option.casesOn (motive:=fun zz=>R) f.attr
 (Option.casesOn (motive:=fun zz=>R) f.nm (R.raw (.Call f.e.b (bs (es ts)) [] p)) fun q=>
  {e:=Option.casesOn (motive:=fun zz=>E) (bif aC q.1 fH then (one ts).bind aBW else none) (Option.casesOn (motive:=fun zz=>E) (bif aC q.1 fH then (one ts).bind aBV else none) (bif vS q.1 then .callB q.1 q.2 (es ts) p else .callD q.1 q.2 (es ts) p) fun z=>.lzip q.2 z.1 z.2.1.1.1 z.2.1.1.2.1 z.2.1.1.2.2 z.2.1.2.1 z.2.1.2.2 z.2.2 p) fun g=>.lrange q.2 g.1 g.2.1 g.2.2 p,
   call:=some (q,es ts,(one ts).bind R.nm,p)})
 fun q=>{e:=Option.casesOn (motive:=fun zz=>E) q.2.1 (.meth q.1 q.2.2.1 q.2.2.2 (es ts) p) fun o=>bif cC K o.1 then .get o.1 o.2 q.2.2.2 (es ts) p else .meth q.1 q.2.2.1 q.2.2.2 (es ts) p,app:=q.2.1.bind fun o=>(one ts).map fun t=>(o,q.2.2.2,t.e,p)}
noncomputable def aBY (K:Ks)(l:R)(ops:List CmpOp)(cs:List R)(p:Pos):R:=
 {e:=Option.casesOn (motive:=fun zz=>E) (bif decide (ops=[.In]) then (one cs).bind R.nm else none) (.cmp l.e ops (es cs) p) fun q=>bif cC K q.1 then .inS l.e q.1 q.2 p else .cmp l.e ops (es cs) p,
  leq:=l.call.bind fun c=>bif aC c.1.1 fH then c.2.2.1.bind fun x=>((one cs).bind R.nil).map fun lp=>(c.1.2,x,c.2.2.2,lp,p) else none}
noncomputable def itX (r:R):It:=Option.casesOn (motive:=fun zz=>It) r.call (.val r.e) fun q=>bif aC q.1.1 fG then .range q.1.2 q.2.1 q.2.2.2 else bif aC q.1.1 iV then .zip q.1.2 q.2.1 q.2.2.2 else .val r.e
noncomputable def tgX (r:R):Tg:=Option.casesOn (motive:=fun zz=>Tg) r.nm (r.tup.getD (.nm [] default)) fun q=>.nm q.1 q.2
mutual
noncomputable def trE (K:Ks):Expr→R
 |.Constant c k p=>{e:=.const c k p}
 |.Name x p=>{e:=bif cC K (nm x) then .gname (nm x) p else .name (nm x) p,nm:=some (nm x,p)}
 |.BinOp l op r p=>{e:=.bin (trE K l).e op (trE K r).e p}
 |.UnaryOp op x p=>{e:=bif decide (op=.Not) then .not (trE K x).e p else .neg (trE K x).e p}
 |.BoolOp op xs p=>{e:=.bool op (es (trEs K xs)) p}
 |.IfExp t a b p=>{e:=.ite (trE K t).e (trE K a).e (trE K b).e p,ifx:=(trE K t).leq.map fun q=>(q,(trE K a).e,(trE K b).e,p)}
 |.Compare l ops cs p=>aBY K (trE K l) ops (trEs K cs) p
 |.List l p=>{e:=.list (es (trEs K l)) p,nil:=bif bP l then some p else none}
 |.Tuple l k p=>{e:=.tup (es (trEs K l)) k p,tup:=(BG (trEs K l)).map fun q=>.tup q k p}
 |.ListComp elt gens sc p=>match gens with
  |[]=>R.raw (.ListComp elt [] sc p)
  |⟨t,it,ifs,_⟩::kP=>{e:=.comp (trE sc.names elt).e (.mk (tgX (trE K t)) (itX (trE K it)) (es (trEs sc.names ifs))) (trG sc.names kP) sc p}
 |.Attribute o a p=>{e:=atX K (trE K o) (fun q=>.attr q.1 q.2 (nm a) p) (fun q=>.cattr q.1 q.2 (nm a) p) (.raw (.Attribute o a p)),attr:=some ((trE K o).e,(trE K o).nm,nm a,p)}
 |.Subscript o i p=>aBS K (trE K o) (trE K i) p
 |.Call f l _ p=>aBX K (trE K f) (trEs K l) p
 |.Slice lo hi st p=>{R.raw (.Slice lo hi st p) with sl:=some (trO K lo,trO K hi,trO K st,p)}
 |e=>R.raw e
noncomputable def trO (K:Ks):Option Expr→Option E
 |none=>none
 |some e=>some (trE K e).e
noncomputable def trEs (K:Ks):List Expr→List R
 |[]=>[]
 |e::r=>trE K e::trEs K r
noncomputable def trG (K:Ks):List Comprehension→List Gn
 |[]=>[]
 |⟨t,it,ifs,_⟩::r=>.mk (tgX (trE K t)) (itX (trE K it)) (es (trEs K ifs))::trG K r
end
noncomputable def aBZ (r:R)(p:Pos):S:=Option.casesOn (motive:=fun zz=>S) r.ifx (.ret r.e p) fun q=>.retL q.1.2.1.1 q.1.1 q.1.2.1.2 q.1.2.2.1 q.1.2.2.2.1 q.1.2.2.2.2 q.2.1 q.2.2.1 q.2.2.2 p
noncomputable def aCa (its:List Nm)(x:NP)(e:R)(p:Pos):S:=
 Option.casesOn (motive:=fun zz=>S) (e.call.bind fun q=>q.2.2.1.map fun y=>(q.1,y,q.2.2.2)) (.set x.1 x.2 e.e p) fun q=>
  bif aC q.1.1 pR then .iter x.1 x.2 q.2.1.1 q.2.1.2 q.1.2 q.2.2 p else bif aC q.1.1 pS then .next x.1 x.2 q.2.1.1 q.2.1.2 q.1.2 q.2.2 p
  else bif gH q.2.1.1 its then .icall x.1 x.2 q.1.1 q.1.2 q.2.1.1 q.2.1.2 q.2.2 p else .set x.1 x.2 e.e p
noncomputable def aCb (its:List Nm)(ts:List R)(e:R)(p:Pos)(raw:S):S:=match ts with
 |[]=>raw
 |[t]=>Option.casesOn (motive:=fun zz=>S) t.nm
  (Option.casesOn (motive:=fun zz=>S) (t.attr.bind fun q=>q.2.1.map fun o=>(o,q.2.2)) (Option.casesOn (motive:=fun zz=>S) t.sub
   (Option.casesOn (motive:=fun zz=>S) t.sub2 (Option.casesOn (motive:=fun zz=>S) t.tup raw fun q=>match q with
    |.tup xs k tp=>.tup xs k tp e.e p
    |.nm ..=>raw) fun q=>.item2 q.1.1 q.1.2 q.2.1 q.2.2.1 q.2.2.2.1 q.2.2.2.2 e.e p)
   fun q=>.item q.1.1 q.1.2 q.2.1 q.2.2 e.e p) fun q=>.attr q.1.1 q.1.2 q.2.1 q.2.2 e.e p)
  fun x=>aCa its x e p
 |ts=>match BG ts with
  |some (x::y::r)=>.many x y r e.e p
  |_=>raw
noncomputable def aCc (t:R)(op:Operator)(e:E)(p:Pos)(raw:S):S:=Option.casesOn (motive:=fun zz=>S) t.nm
 (Option.casesOn (motive:=fun zz=>S) t.sub2 raw fun q=>.augI2 q.1.1 q.1.2 q.2.1 q.2.2.1 q.2.2.2.1 q.2.2.2.2 op e p) fun q=>.augN q.1 q.2 op e p
mutual
noncomputable def trS (K:Ks)(its:List Nm):Stmt→S
 |.Return e p=>match e with
  |some e=>aBZ (trE K e) p
  |none=>.raw (.Return none p)
 |.Assign ts e p=>aCb its (trEs K ts) (trE K e) p (.raw (.Assign ts e p))
 |.AugAssign t op e p=>aCc (trE K t) op (trE K e).e p (.raw (.AugAssign t op e p))
 |.Expr e p=>Option.casesOn (motive:=fun zz=>S) (trE K e).app (.raw (.Expr e p)) fun q=>.app q.1.1 q.1.2 q.2.1 q.2.2.1 q.2.2.2 p
 |.If t a b p=>.ife (trE K t).e (trSs K its a) (trSs K its b) p
 |.While t a b p=>.whl (trE K t).e (trSs K its a) (trSs K its b) p
 |.For t it a b p=>.for (tgX (trE K t)) (itX (trE K it)) (trSs K its a) (trSs K its b) p
 |.Break p=>.brk p
 |.Pass p=>.pass p
 |s=>.raw s
noncomputable def trSs (K:Ks)(its:List Nm):List Stmt→List S
 |[]=>[]
 |s::r=>trS K its s::trSs K its r
end
structure Gl where
 const:Nm→Option PV
 cattr:Nm→Nm→Option PV
 table:Nm→PV→Option (Option PV)
 inSet:Nm→PV→Option Bool
 fld:Nm→Bool
 call:Nm→List PV→Option PV
 meth:Nm→List PV→Option PV
 icall:Nm→List PV→Option (PV × List PV)
 fuel:Nat
 hot:List Nm
 sc:Ks
noncomputable def dX (K:Ks)(x:Nm):Bool:=Option.casesOn (motive:=fun zz=>Bool) (dP x K) false fun k=>decide (k=.local) || decide (k=.cell)
noncomputable def aCd (K:Ks)(x:Nm):Bool:=decide (dP x K=some .free)
noncomputable def jP (sc:Scope)(σ:Sg):Sg:=σ.filter fun p=>aCd sc.names p.1
noncomputable def scN (K:Ks)(x:Nm)(k:NameKind):Bool:=NameKind.casesOn (motive:=fun zz=>Bool) k true true (!(aC x BF) && (decide (dP x K=some .cell) || decide (dP x K=some .free))) false true
noncomputable def iZ (K:Ks)(sc:Scope):Bool:=decide (sc.kind=.function) && sc.names.all fun p=>decide (dP (nm p.1) sc.names=some p.2) && scN K (nm p.1) p.2
noncomputable def PX (s:Slot):Option EV:=Slot.casesOn (motive:=fun zz=>Option EV) s (fun d=>some (.v d)) (fun l=>some (.h l)) (fun zz zz=>none) (fun zz=>none) (fun zz=>none)
noncomputable def aCe (s:Slot):Option (List PV):=Slot.casesOn (motive:=fun zz=>Option (List PV)) s (fun zz=>none) some (fun zz zz=>none) (fun zz=>none) (fun zz=>none)
noncomputable def aCf (s:Slot):Option (List (List Int)):=Slot.casesOn (motive:=fun zz=>Option (List (List Int))) s (fun zz=>none) (fun zz=>none) (fun zz zz=>none) (fun zz=>none) some
noncomputable def aCg (s:Slot):Option (Option Nat × List PV):=Slot.casesOn (motive:=fun zz=>Option (Option Nat × List PV)) s (fun zz=>none) (fun zz=>none) (fun t l=>some (t,l)) (fun zz=>none) (fun zz=>none)
noncomputable def nC (s:Slot):Option (List (List Nat × PV)):=Slot.casesOn (motive:=fun zz=>Option (List (List Nat × PV))) s (fun zz=>none) (fun zz=>none) (fun zz zz=>none) some (fun zz=>none)
noncomputable def PY (s:Slot):Option PV:=Slot.casesOn (motive:=fun zz=>Option PV) s some (fun zz=>none) (fun zz zz=>none) (fun zz=>none) (fun zz=>none)
noncomputable def BH (s:Slot):Option (List (List Nat × PV)):=Slot.casesOn (motive:=fun zz=>Option (List (List Nat × PV))) s asF (fun zz=>none) (fun zz zz=>none) some (fun zz=>none)
noncomputable def nE:List NP→List PV→Sg→Option Sg
 |[]=>fun l σ=>bif bP l then some σ else none
 |q::r=>fun l σ=>List.casesOn (motive:=fun zz=>Option Sg) l none fun d l=>nE r l (aU q.1 (.fz d) σ)
noncomputable def vT (K:Ks)(ts:List NP):Bool:=ts.all fun q=>dX K q.1
noncomputable def bK (K:Ks)(t:Tg)(d:PV)(σ:Sg):Option Sg:=Tg.casesOn (motive:=fun zz=>Option Sg) t
 (fun x zz=>bif dX K x then some (aU x (.fz d) σ) else none) (fun ts zz zz=>(aBH d).bind fun l=>bif vT K ts then nE ts l σ else none)
noncomputable def vU (σ:Sg)(x:Nm):Bool:=(aD x σ).isNone
noncomputable def aCh (σ:Sg)(t:Tg):Bool:=Tg.casesOn (motive:=fun zz=>Bool) t (fun x zz=>vU σ x) (fun ts zz zz=>ts.all fun q=>vU σ q.1)
noncomputable def bindC (K:Ks)(t:Tg)(d:PV)(σ:Sg):Option Sg:=bif aCh σ t then bK K t d σ else none
noncomputable def tOk (t:Tg)(it:It):Bool:=It.casesOn (motive_3:=fun zz=>Bool) it (fun zz=>true) (fun zz zz zz=>true) (fun zz zz zz=>Tg.casesOn (motive:=fun zz=>Bool) t (fun zz zz=>false) fun zz zz zz=>true)
structure pZ where
 t:Tg
 it:Sg→Option (List PV)
 ifs:Sg→Option Bool
noncomputable def nG (o:Option EV):Option (List PV):=(bB o).map fun d=>[d]
noncomputable def compTurn (K:Ks)(g:pZ)(k:Sg→Option (List PV))(σ:Sg)(d:PV):Option (List PV):=(bindC K g.t d σ).bind fun σ'=>(g.ifs σ').bind fun b=>bif b then k σ' else some []
noncomputable def jQ (K:Ks)(elt:Sg→Option EV):List pZ→Sg→Option (List PV)
 |[],σ=>nG (elt σ)
 |g::kP,σ=>(g.it σ).bind (compLoop (compTurn K g (jQ K elt kP) σ))
noncomputable def PZ (x:Nm)(σ:Sg):Option EV:=bif aC x eQ then none else (aD x σ).bind PX
noncomputable def gnV (G:Gl)(x:Nm):Option EV:=bif cC G.sc x then (G.const x).map .v else none
noncomputable def BI (op:Operator)(a b:Option EV):Option EV:=a.bind fun a=>b.bind fun b=>(AX op a.pv b.pv).map .v
noncomputable def aCi (o:Option EV):Option EV:=((bB o).bind asI).map fun i=>.v (.int (-i))
noncomputable def aCj (o:Option EV):Option EV:=o.bind fun d=>(vN d.pv).map fun b=>.v (.bool !b)
noncomputable def ifE (t:Option Bool)(a b:Option EV):Option EV:=t.bind fun t=>bif t then a else b
noncomputable def qA (ops:List CmpOp)(l:Option EV)(cs:List (Option EV)):Option EV:=l.bind fun a=>(pY a.pv ops cs).map fun b=>.v (.bool b)
noncomputable def inE (G:Gl)(x:Nm)(l:Option EV):Option EV:=(bB l).bind fun a=>bif cC G.sc x then (G.inSet x a).map fun b=>.v (.bool b) else none
noncomputable def qB (L:List (Option EV)):Option EV:=(cV L).bind fun l=>mkV (.list l)
noncomputable def QA (L:List (Option EV)):Option EV:=(cV L).bind fun l=>mkV (.tuple l)
noncomputable def aCk (G:Gl)(o a:Nm)(σ:Sg):Option EV:=bif aC o eQ then none else (aD o σ).bind fun s=>(BH s).bind fun fs=>bif G.fld a then (aD a fs).map .v else none
noncomputable def aCl (G:Gl)(c a:Nm):Option EV:=bif cC G.sc c then (G.cattr c a).map .v else none
noncomputable def QB (o:Option EV)(lo hi st:Option (Option Int)):Option EV:=o.bind fun x=>(asL x.pv).bind fun xs=>lo.bind fun lo=>hi.bind fun hi=>st.bind fun st=>
 bif bG xs.length then (pX xs lo hi st).bind fun l=>mkV (.list l) else none
noncomputable def BJ (o i:Option EV):Option EV:=o.bind fun x=>((bB i).bind asI).bind fun i=>PW x i
noncomputable def QC (o:Option EV)(lo hi st:Option (Option Int)):Option EV:=o.bind fun x=>(vM x.pv).bind fun q=>lo.bind fun lo=>hi.bind fun hi=>st.bind fun st=>bif decide (lo=none) && decide (hi=none) && decide (st=some (-1)) then some (.v (.tuple [q.2,q.1])) else none
noncomputable def vV (o:Option EV)(lo hi st:Option (Option Int)):Option EV:=Option.casesOn (motive:=fun zz=>Option EV) (o.bind fun x=>vM x.pv) (QB o lo hi st) fun zz=>QC o lo hi st
noncomputable def tB (x:Nm)(σ:Sg):Option (List (List Int)):=(aD x σ).bind aCf
noncomputable def at2 (t:List (List Int))(i j:Int):Option Int:=(atI t i).bind fun r=>atI r j
noncomputable def BK (x:Nm)(σ:Sg)(i j:Option EV):Option EV:=Option.casesOn (motive:=fun zz=>Option EV) (tB x σ) (BJ (BJ (PZ x σ) i) j) fun t=>bif aC x eQ then none else ((bB i).bind asI).bind fun i=>((bB j).bind asI).bind fun j=>(at2 t i j).map fun d=>.v (.int d)
noncomputable def lzE (G:Gl)(L:List (Option EV))(x y:Option EV):Option EV:=bif cC G.sc fH && cC G.sc iV && cC G.sc fG then (vP (cV L)).bind fun r=>((bB x).bind asL).bind fun xs=>((bB y).bind asL).bind fun ys=>bif !(bP r) && (decide (r.length≤xs.length) && decide (r.length≤ys.length)) then mkV (.list (vQ r xs ys)) else none else none
noncomputable def aCm (G:Gl)(x:Nm)(i:Option EV):Option EV:=bif cC G.sc x then (bB i).bind fun d=>(G.table x d).bind fun r=>r.map .v else none
noncomputable def aCn (G:Gl)(f:Nm)(L:List (Option EV)):Option EV:=bif cC G.sc f && vS f then (iY L).bind fun l=>(tA f l).bind mkV else none
noncomputable def aCo (G:Gl)(f:Nm)(L:List (Option EV)):Option EV:=bif cC G.sc f then (cV L).bind fun l=>(G.call f l).map .v else none
noncomputable def lrE (G:Gl)(L:List (Option EV)):Option EV:=bif cC G.sc fH && cC G.sc fG then (vP (cV L)).bind fun l=>mkV (.list l) else none
noncomputable def aCp (G:Gl)(m:Nm)(fs:List (List Nat × PV))(L:List (Option EV)):Option EV:=(cV L).bind fun l=>bif (aD m fs).isNone then (G.meth m (.inst fs::l)).map .v else none
noncomputable def aCq (m:Nm)(x:PV)(L:List (Option EV)):Option EV:=(iY L).bind fun l=>(BD m x l).bind mkV
noncomputable def aCr (G:Gl)(m:Nm)(few:Bool)(o:Option EV)(L:List (Option EV)):Option EV:=bif few then o.bind fun x=>Option.casesOn (motive:=fun zz=>Option EV) (asF x.pv) (aCq m x.pv L) fun fs=>aCp G m fs L else none
noncomputable def aCs (G:Gl)(x:Nm)(l:List PV):Option PV:=List.casesOn (motive:=fun zz=>Option PV) l none fun k r=>(G.table x k).bind fun v=>List.casesOn (motive:=fun zz=>Option PV) r (some (v.getD .none)) fun d r=>bif bP r then some (v.getD d) else none
noncomputable def aCt (G:Gl)(x:Nm)(few:Bool)(L:List (Option EV)):Option EV:=bif few && cC G.sc x then (cV L).bind fun l=>(aCs G x l).map .v else none
noncomputable def BL (es:List E)(ap p:Pos):Bool:=(ap.endLine==p.line) && decide (es.length<20)
noncomputable def BM (o:E):Bool:=match o with
 |.callB _ _ es _=>!(bP es)
 |.callD _ _ es _=>!(bP es)
 |.raw _=>false
 |_=>true
noncomputable def aCu (ops:List CmpOp)(cs:List E):Bool:=!(lastMarks ops (bs cs)) && (ops.length==cs.length)
noncomputable def aCv (K:Ks)(elt:Sg→Option EV)(g:pZ)(kP:List pZ)(xs:Option (List PV))(σ:Sg):Option EV:=xs.bind fun xs=>(compLoop (compTurn K g (jQ K elt kP) σ) xs).bind fun l=>mkV (.list l)
noncomputable def trV (whole:Option EV):Option Bool:=whole.bind fun d=>vN d.pv
noncomputable def vW (e:E):Bool:=match e with
 |.cmp ..=>true
 |.inS ..=>true
 |_=>false
noncomputable def aCw (ok:Bool)(o:Option Bool):Option EV:=bif ok then o.map fun b=>.v (.bool b) else none
mutual
noncomputable def ev (G:Gl):E→Sg→Option EV
 |.const c _ _,σ=>(aBK c).map .v
 |.name x _,σ=>PZ x σ
 |.gname x _,_=>gnV G x
 |.bin l op r _,σ=>BI op (ev G l σ) (ev G r σ)
 |.neg x _,σ=>aCi (ev G x σ)
 |.not x _,σ=>aCj (ev G x σ)
 |.bool op xs _,σ=>aCw (!(bP xs) && xs.all vW) (trs G op xs σ)
 |.ite t a b _,σ=>ifE (tr G t σ (ev G t σ)) (ev G a σ) (ev G b σ)
 |.cmp l ops cs _,σ=>bif aCu ops cs then qA ops (ev G l σ) (evs G cs σ) else none
 |.inS l x _ _,σ=>inE G x (ev G l σ)
 |.list es _,σ=>qB (evs G es σ)
 |.tup es _ _,σ=>QA (evs G es σ)
 |.comp elt g gs sc _,σ=>bif iZ G.sc sc && decide (gs.length≤1) then aCv sc.names (ev {G with sc:=sc.names} elt) (gen1 {G with sc:=sc.names} g) (gens {G with sc:=sc.names} gs) (gen0 G g σ) (jP sc σ) else none
 |.attr o _ a _,σ=>aCk G o a σ
 |.cattr o _ a _,_=>aCl G o a
 |.sub o i _,σ=>BJ (ev G o σ) (ev G i σ)
 |.tab x _ i _,σ=>aCm G x (ev G i σ)
 |.slice o lo hi st _ _,σ=>vV (ev G o σ) (evO G lo σ) (evO G hi σ) (evO G st σ)
 |.callB f _ es _,σ=>aCn G f (evs G es σ)
 |.callD f _ es _,σ=>aCo G f (evs G es σ)
 |.lrange _ _ es _ _,σ=>lrE G (evs G es σ)
 |.meth o m ap es p,σ=>aCr G m (BL es ap p && BM o) (ev G o σ) (evs G es σ)
 |.get x _ ap es p,σ=>aCt G x (BL es ap p) (evs G es σ)
 |.sub2 x _ i _ j _,σ=>BK x σ (ev G i σ) (ev G j σ)
 |.lzip _ _ _ es _ x y _ _,σ=>lzE G (evs G es σ) (ev G x σ) (ev G y σ)
 |.raw _,_=>none
noncomputable def evO (G:Gl):Option E→Sg→Option (Option Int)
 |none,_=>some none
 |some e,σ=>((bB (ev G e σ)).bind asI).map some
noncomputable def evs (G:Gl):List E→Sg→List (Option EV)
 |[],_=>[]
 |e::r,σ=>ev G e σ::evs G r σ
noncomputable def tr (G:Gl):E→Sg→Option EV→Option Bool
 |.not x _,σ,_=>(tr G x σ (ev G x σ)).map (!·)
 |.bool op xs _,σ,_=>trs G op xs σ
 |.ite ..,_,_=>none
 |.raw _,_,_=>none
 |.const ..,_,o=>trV o
 |.name ..,_,o=>trV o
 |.gname ..,_,o=>trV o
 |.bin ..,_,o=>trV o
 |.neg ..,_,o=>trV o
 |.cmp ..,_,o=>trV o
 |.inS ..,_,o=>trV o
 |.list ..,_,o=>trV o
 |.tup ..,_,o=>trV o
 |.comp ..,_,o=>trV o
 |.attr ..,_,o=>trV o
 |.cattr ..,_,o=>trV o
 |.sub ..,_,o=>trV o
 |.tab ..,_,o=>trV o
 |.slice ..,_,o=>trV o
 |.callB ..,_,o=>trV o
 |.callD ..,_,o=>trV o
 |.lrange ..,_,o=>trV o
 |.meth ..,_,o=>trV o
 |.get ..,_,o=>trV o
 |.sub2 ..,_,o=>trV o
 |.lzip ..,_,o=>trV o
noncomputable def trs (G:Gl)(op:BoolOp):List E→Sg→Option Bool
 |[],_=>some (BoolOp.casesOn (motive:=fun zz=>Bool) op true false)
 |x::r,σ=>(tr G x σ (ev G x σ)).bind fun t=>BoolOp.casesOn (motive:=fun zz=>Option Bool) op (bif t then trs G op r σ else some false) (bif t then some true else trs G op r σ)
noncomputable def tC (G:Gl):It→Sg→Option (List PV)
 |.val e,σ=>(bB (ev G e σ)).bind AZ
 |.range _ es _,σ=>bif cC G.sc fG then vP (cV (evs G es σ)) else none
 |.zip _ es _,σ=>bif cC G.sc iV then aBL (cV (evs G es σ)) else none
noncomputable def gen0 (G:Gl):Gn→Sg→Option (List PV)
 |.mk t it _,σ=>bif tOk t it then tC G it σ else none
noncomputable def gen1 (G:Gl):Gn→pZ
 |.mk t it ifs=>⟨t,fun σ=>bif tOk t it then tC G it σ else none,trs G .And ifs⟩
noncomputable def gens (G:Gl):List Gn→List pZ
 |[]=>[]
 |g::r=>gen1 G g::gens G r
end
inductive Fl where
 |next
 |brk
 |ret (d:PV)
noncomputable abbrev Rs:=Option (Fl × Sg)
noncomputable def qC:List Nat:=[95,95,105,110,105,116,95,95]
noncomputable def fU (e:E):Bool:=match e with
 |.list ..=>true
 |.comp ..=>true
 |.bin _ op _ _=>decide (op=.Add) || decide (op=.Mult)
 |_=>false
noncomputable def fr2 (e:E):Bool:=match e with
 |.comp elt _ gs _ _=>fU elt && bP gs
 |_=>false
noncomputable def nH (e:E):Bool:=match e with
 |.comp ..=>true
 |_=>false
noncomputable def tD (e:E):Bool:=match e with
 |.tup ..=>true
 |_=>false
noncomputable def vX (e:E):Bool:=match e with
 |.attr ..=>true
 |.cattr ..=>true
 |_=>false
noncomputable def aCx (e:E):List E:=match e with
 |.tup es _ _=>es
 |_=>[]
noncomputable def QD (ts:List NP)(value:E):Bool:=!(tD value) || (match two ts,two (aCx value) with
 |some (a,b),some (u,_)=>vX u && !(aC a.1 b.1)
 |_,_=>false)
noncomputable def lU (s:Slot):Slot:=Slot.casesOn (motive:=fun zz=>Slot) s .fz (fun xs=>.fz (.list xs)) .iter (fun fs=>.fz (.inst fs)) .own2
noncomputable def frz (σ:Sg):Sg:=σ.map fun p=>(p.1,lU p.2)
noncomputable def cO (x:Nm)(σ:Sg):Sg:=σ.filter fun p=>!(aC p.1 x)
noncomputable def qD (hot hot2:Bool)(d:PV):Slot:=PV.casesOn (motive_1:=fun zz=>Slot) d (.fz .none) (fun b=>.fz (.bool b)) (fun i=>.fz (.int i)) (fun s=>.fz (.str s)) (fun s=>.fz (.bytes s)) (fun xs=>bif hot2 then Option.casesOn (motive:=fun zz=>Slot) (pV xs) (.fz (.list xs)) .own2 else bif hot then .own xs else .fz (.list xs)) (fun s=>.fz (.tuple s)) (fun s=>.fz (.inst s))
noncomputable def QE (G:Gl)(x:Nm)(e:E)(d:EV)(σ:Sg):Option Sg:=
 bif dX G.sc x then EV.casesOn (motive:=fun zz=>Option Sg) d (fun d=>some (aU x (qD (fU e && gH x G.hot) (fr2 e && gH (0::x) G.hot) d) σ)) fun zz=>none else none
noncomputable def BN (K:Ks)(d:PV):List NP→Sg→Option Sg
 |[],σ=>some σ
 |q::r,σ=>bif dX K q.1 then BN K d r (aU q.1 (.fz d) σ) else none
noncomputable def BO (x:Nm)(σ:Sg):Option (List PV):=(aD x σ).bind aCe
noncomputable def QF (x:Nm)(i:PV)(d:PV)(σ:Sg):Option Sg:=(BO x σ).bind fun xs=>(asI i).bind fun i=>(iB xs i d).map fun l=>aU x (.own l) σ
noncomputable def BP (x:Nm)(i j:PV)(d:PV)(σ:Sg):Option Sg:=(tB x σ).bind fun t=>(asI i).bind fun i=>(asI j).bind fun j=>(asI d).bind fun d=>(atI t i).bind fun r=>(iB r j d).bind fun r=>(iB t i r).map fun t=>aU x (.own2 t) σ
noncomputable def aCy (x:Nm)(i j:PV)(σ:Sg):Option PV:=(tB x σ).bind fun t=>(asI i).bind fun i=>(asI j).bind fun j=>(at2 t i j).map .int
noncomputable def forLoop (K:Ks)(t:Tg)(body:Sg→Rs)(els:Sg→Rs):List PV→Sg→Rs
 |[],σ=>els σ
 |d::r,σ=>match bK K t d σ with
  |none=>none
  |some σ=>match body σ with
   |some (.next,σ)=>forLoop K t body els r σ
   |some (.brk,σ)=>some (.next,σ)
   |x=>x
theorem aCz (K:Ks)(t:Tg)(body els:Sg→Rs)(σ:Sg):forLoop K t body els [] σ=els σ:=rfl
theorem fJ (K:Ks)(t:Tg)(body els:Sg→Rs)(d:PV)(r:List PV)(σ:Sg):forLoop K t body els (d::r) σ=match bK K t d σ with
  |none=>none
  |some σ=>match body σ with
   |some (.next,σ)=>forLoop K t body els r σ
   |some (.brk,σ)=>some (.next,σ)
   |x=>x:=rfl
noncomputable def jA (test:Sg→Option Bool)(body:Sg→Rs)(els:Sg→Rs):Nat→Sg→Rs
 |0,_=>none
 |n+1,σ=>match test σ with
  |some false=>els σ
  |some true=>match body σ with
   |some (.next,σ)=>jA test body els n σ
   |some (.brk,σ)=>some (.next,σ)
   |x=>x
  |none=>none
theorem nJ (test:Sg→Option Bool)(body els:Sg→Rs)(n:Nat)(σ:Sg):jA test body els (n+1) σ=match test σ with
  |some false=>els σ
  |some true=>match body σ with
   |some (.next,σ)=>jA test body els n σ
   |some (.brk,σ)=>some (.next,σ)
   |x=>x
  |none=>none:=rfl
noncomputable def dA (o:Option Sg):Rs:=o.map fun σ=>(.next,σ)
noncomputable def aC0 (op:Operator)(x y:Int):Option Int:=match op with
 |.Add=>some (x+y)
 |.Sub=>some (x-y)
 |.BitAnd=>some (Builtin.bitAnd x y)
 |.BitOr=>some (Builtin.bitOr x y)
 |.BitXor=>some (Builtin.bitXor x y)
 |.LShift=>bif decide (0≤y) && decide (y≤1000000) && decide (x.natAbs<2 ^ 64) then some (x*2 ^ y.toNat) else none
 |.RShift=>bif decide (0≤y) then some (x.fdiv (2 ^ y.toNat)) else none
 |_=>none
noncomputable def vY (op:Operator)(a b:PV):Option PV:=(asI a).bind fun x=>(asI b).bind fun y=>(aC0 op x y).map .int
noncomputable def tE (d:Option EV)(σ:Sg):Rs:=(bB d).map fun d=>(.ret d,σ)
noncomputable def BQ (x:Nm)(σ:Sg):Option (Option Nat × List PV):=bif aC x eQ then none else (aD x σ).bind aCg
noncomputable def retL (G:Gl)(it:Nm)(r:Sg→Option EV)(σ:Sg):Rs:=(BQ it σ).bind fun q=>bif bP q.2 && cC G.sc fH then tE (r (frz (cO it σ))) (cO it σ) else none
noncomputable def QG (d:PV):Option (List Nat):=PV.casesOn (motive_1:=fun zz=>Option (List Nat)) d none (fun zz=>none) (fun zz=>none) (fun zz=>none) some (fun zz=>none) (fun zz=>none) (fun zz=>none)
noncomputable def aC1 (G:Gl)(x y:Nm)(σ:Sg):Rs:=bif aC y eQ then none else bif dX G.sc x && cC G.sc pR then ((aD y σ).bind fun s=>(PY s).bind QG).map fun b=>(.next,aU x (.iter none (b.map fun c=>.int (Int.ofNat c))) σ) else none
noncomputable def aC2 (G:Gl)(x it:Nm)(σ:Sg):Rs:=bif dX G.sc x && cC G.sc pS then (BQ it σ).bind fun q=>List.casesOn (motive:=fun zz=>Rs) q.2 none fun d r=>some (.next,aU x (.fz d) (aU it (.iter q.1 r) σ)) else none
noncomputable def aC3 (G:Gl)(x f it:Nm)(σ:Sg):Rs:=bif dX G.sc x && cC G.sc f then (BQ it σ).bind fun q=>(G.icall f q.2).map fun r=>(.next,aU x (.fz r.1) (aU it (.iter q.1 r.2) σ)) else none
noncomputable def aC4 (G:Gl)(x:Nm)(e:E)(v:Option EV)(σ:Sg):Rs:=dA (v.bind fun d=>QE G x e d σ)
noncomputable def aC5 (G:Gl)(xs:List NP)(v:Option EV)(σ:Sg):Rs:=dA ((bB v).bind fun d=>BN G.sc d xs σ)
noncomputable def QH (G:Gl)(xs:List NP)(e:E)(k:Nat)(tp:Pos)(v:Option EV)(σ:Sg):Rs:=dA (bif QD xs e && !(nH e) then (bB v).bind fun d=>bK G.sc (.tup xs k tp) d σ else none)
noncomputable def aC6 (G:Gl)(o a:Nm)(e:E)(v:Option EV)(σ:Sg):Rs:=dA (bif aC o eQ then none else bif G.fld a && !(nH e) then ((aD o σ).bind nC).bind fun fs=>bif decide (fs.length<1000) then (bB v).map fun d=>aU o (.self (aU a d fs)) σ else none else none)
noncomputable def aC7 (x:Nm)(i v:Option EV)(σ:Sg):Rs:=dA (bif aC x eQ then none else (bB v).bind fun d=>(bB i).bind fun i=>QF x i d σ)
noncomputable def augN (G:Gl)(x:Nm)(op:Operator)(v:Option EV)(σ:Sg):Rs:=dA (bif !(dX G.sc x) || aC x eQ then none else (aD x σ).bind fun s=>(bB v).bind fun b=>Slot.casesOn (motive:=fun zz=>Option Sg) s
 (fun a=>(vY op a b).map fun d=>aU x (.fz d) σ) (fun xs=>bif decide (op=.Add) then (asL b).bind fun ys=>(mX xs ys).map fun l=>aU x (.own l) σ else none) (fun zz zz=>none) (fun zz=>none) (fun zz=>none))
noncomputable def aC8 (x:Nm)(i j v:Option EV)(σ:Sg):Rs:=dA (bif aC x eQ then none else (bB v).bind fun d=>(bB i).bind fun i=>(bB j).bind fun j=>BP x i j d σ)
noncomputable def aC9 (x:Nm)(op:Operator)(i j v:Option EV)(σ:Sg):Rs:=dA (bif aC x eQ then none else (bB i).bind fun i=>(bB j).bind fun j=>(bB v).bind fun b=>(aCy x i j σ).bind fun a=>(vY op a b).bind fun d=>BP x i j d σ)
noncomputable def aCA (x:Nm)(one:Bool)(v:Option EV)(σ:Sg):Rs:=dA (bif aC x eQ then none else bif one then (BO x σ).bind fun xs=>(bB v).bind fun d=>bif bG (xs.length+1) then some (aU x (.own (xs++[d])) σ) else none else none)
noncomputable def ifS (t:Option Bool)(a b:Rs):Rs:=t.bind fun t=>bif t then a else b
noncomputable def nK (a:Rs)(f:Sg→Rs):Rs:=match a with
  |some (.next,σ)=>f σ
  |x=>x
mutual
noncomputable def ex (G:Gl):S→Sg→Rs
 |.ret e _,σ=>tE (ev G e (frz σ)) σ
 |.retL it _ _ _ _ _ a _ _ _,σ=>retL G it (ev G a) σ
 |.set x _ e _,σ=>aC4 G x e (ev G e σ) σ
 |.iter x _ y _ _ _ _,σ=>aC1 G x y σ
 |.next x _ it _ _ _ _,σ=>aC2 G x it σ
 |.icall x _ f _ it _ _ _,σ=>aC3 G x f it σ
 |.many x y xs e _,σ=>aC5 G (x::y::xs) (ev G e σ) σ
 |.tup xs k tp e _,σ=>QH G xs e k tp (ev G e σ) σ
 |.attr o _ a _ e _,σ=>aC6 G o a e (ev G e σ) σ
 |.item x _ i _ e _,σ=>aC7 x (ev G i σ) (ev G e σ) σ
 |.augN x _ op e _,σ=>augN G x op (ev G e σ) σ
 |.item2 x _ i _ j _ e _,σ=>aC8 x (ev G i σ) (ev G j σ) (ev G e σ) σ
 |.augI2 x _ i _ j _ op e _,σ=>aC9 x op (ev G i σ) (ev G j σ) (ev G e σ) σ
 |.app x _ ap e cp _,σ=>aCA x (ap.endLine==cp.line) (ev G e σ) σ
 |.ife t a b _,σ=>ifS (tr G t σ (ev G t σ)) (exs G a σ) (exs G b σ)
 |.whl t a b _,σ=>jA (fun σ=>tr G t σ (ev G t σ)) (exs G a) (exs G b) G.fuel σ
 |.for t it a b _,σ=>bif tOk t it then (tC G it σ).bind fun xs=>forLoop G.sc t (exs G a) (exs G b) xs σ else none
 |.brk _,σ=>some (.brk,σ)
 |.pass _,σ=>some (.next,σ)
 |.raw _,_=>none
noncomputable def exs (G:Gl):List S→Sg→Rs
 |[],σ=>some (.next,σ)
 |s::r,σ=>nK (ex G s σ) (exs G r)
end
mutual
noncomputable def aCB:S→List Nm
 |.item x ..=>[x]
 |.augN x ..=>[x]
 |.item2 x ..=>[0::x]
 |.augI2 x ..=>[0::x]
 |.app x ..=>[x]
 |.ife _ a b _=>hotSs a++hotSs b
 |.whl _ a b _=>hotSs a++hotSs b
 |.for _ _ a b _=>hotSs a++hotSs b
 |_=>[]
noncomputable def hotSs:List S→List Nm
 |[]=>[]
 |s::r=>aCB s++hotSs r
end
noncomputable def aCC:S→List Nm
 |.iter x ..=>[x]
 |.next _ _ it ..=>[it]
 |_=>[]
structure Df where
 sc:Scope
 params:List Nm
 body:List S
 hot:List Nm
noncomputable def BR (a:Arguments)(b:List Stmt)(sc:Scope):Df:=⟨sc,a.args.map fun x=>nm x.arg,trSs sc.names ((trSs sc.names [] b).flatMap aCC) b,hotSs (trSs sc.names [] b)⟩
noncomputable def vZ:List Stmt→List (Nm × Df)
 |[]=>[]
 |s::r=>match s with
  |.FunctionDef n a b _ _ _ sc _ _ _=>(nm n,BR a b sc)::vZ r
  |_=>vZ r
noncomputable def BS:List Stmt→List (Nm × List (Nm × Df))
 |[]=>[]
 |s::r=>match s with
  |.ClassDef n _ _ b _ _ _ _ _ _ _=>(nm n,vZ b)::BS r
  |_=>BS r
structure Tx where
 dfs:List (Nm × Df)
 cls:Nm
 meths:List (Nm × Df)
 const:Nm→Option PV
 cattr:Nm→Nm→Option PV
 table:Nm→PV→Option (Option PV)
 inSet:Nm→PV→Option Bool
 fld:Nm→Bool
 icall:Nm→List PV→Option (PV × List PV)
 fuel:Nat
noncomputable def dH (r:Rs):Option PV:=r.bind fun q=>Fl.casesOn (motive:=fun zz=>Option PV) q.1 (some .none) none some
noncomputable def fK (T:Tx)(call:Nm→List PV→Option PV)(meth:Nm→List PV→Option PV)(D:Df):Gl:=
 {const:=T.const,cattr:=T.cattr,table:=T.table,inSet:=T.inSet,fld:=T.fld,call,meth,icall:=T.icall,fuel:=T.fuel,hot:=D.hot,sc:=D.sc.names}
noncomputable def dB:List Nm→List PV→Sg
 |[]=>fun zz=>[]
 |x::r=>fun l=>List.casesOn (motive:=fun zz=>Sg) l [] fun d l=>(x,.fz d)::dB r l
structure QI where
 call:Nm→List PV→Option PV
 meth:Nm→List PV→Option PV
noncomputable def tF (G:Df→Gl)(o:Option Df)(args:List PV):Option PV:=o.bind fun D=>bif D.params.length==args.length then dH (exs (G D) D.body (dB D.params args)) else none
noncomputable def QJ (s:Nm)(r:Rs):Option PV:=r.bind fun q=>Fl.casesOn (motive:=fun zz=>Option PV) q.1 (((aD s q.2).bind nC).map .inst) none fun zz=>none
noncomputable def QK (G:Df→Gl)(o:Option Df)(args:List PV):Option PV:=o.bind fun D=>(one args).bind fun d=>(two D.params).bind fun p=>QJ p.1 (exs (G D) D.body [(p.1,.self []),(p.2,.fz d)])
noncomputable def eJ (T:Tx):Nat→QI
 |0=>⟨fun zz zz=>none,fun zz zz=>none⟩
 |n+1=>
  {call:=fun f args=>bif aC f T.cls then QK (fK T (eJ T n).call (eJ T n).meth) (aD qC T.meths) args else tF (fK T (eJ T n).call (eJ T n).meth) (aD f T.dfs) args
   meth:=fun f args=>tF (fK T (eJ T n).call (eJ T n).meth) (aD f T.meths) args}
structure Cx where
 cls:Addr
 hb:Heap
 gl:Addr
 bi:Addr
 gm:PySem.Str→Option Value
 bm:PySem.Str→Option Value
 me:Value→Prop
noncomputable abbrev aS (its:List Value)(n:Nat):Obj:={cls:=.type "list",data:=.seq its.toArray n}
noncomputable abbrev aW (its:List Value)(n:Nat):Obj:={cls:=.type "tuple",data:=.seq its.toArray n}
noncomputable abbrev iC (s:List Nat)(t:Tok):Value:=.str ⟨s.toArray⟩ t
noncomputable def aG (X:Addr→Prop)(h h':Heap):Prop:=∀a o,h.get? a=some o→¬ X a→h'.get? a=some o
noncomputable abbrev NoX:Addr→Prop:=fun zz=>False
section
variable {X Y:Addr→Prop}{h h' h'':Heap}
theorem aG.refl (X:Addr→Prop)(h:Heap):aG X h h:=fun zz zz e zz=>e
theorem aG.trans (a:aG X h h')(b:aG X h' h''):aG X h h'':=fun x o e n=>b x o (a x o e n) n
theorem aG.mono (a:aG X h h')(i:∀x,X x→Y x):aG Y h h':=fun x o e n=>a x o e fun q=>n (i x q)
theorem aG.any (a:aG NoX h h'):aG X h h':=fun x o e zz=>a x o e id
theorem aG.push (X:Addr→Prop)(h:Heap)(o:Obj):aG X h (h.push o):=fun zz zz e zz=>Heap.get?_push_of_some _ e
end
inductive dY (i:Int):Value→Prop
 |mk (t:Tok):dY i (.int i t)
inductive iD (s:List Nat):Value→Prop
 |mk (t:Tok):iD s (iC s t)
inductive ByV (b:List Nat):Value→Prop
 |mk (t:Tok) (h:∀c∈b,c<256):ByV b (.bytes (b.map fun c=>c.toUInt8).toArray t)
inductive LV (N:Addr→Prop)(h:Heap)(T:List Value→Nat→Obj)(R:List Value→Prop):Value→Prop
 |mk {a:Addr} {its:List Value} {n:Nat} (x:N a) (g:h.get? a=some (T its n)) (r:R its):LV N h T R (.ref a)
inductive IV (C:Cx)(N:Addr→Prop)(h:Heap)(R:(PySem.Str→Option Value)→Prop):Value→Prop
 |mk {a d:Addr} {o:Obj} {mA:PySem.Str→Option Value} (x:N a) (x':N d) (ne:d≠a) (g:h.get? a=some o) (oc:o.cls=.ref C.cls) (od:o.dict=some d) (on:∀c,o.data≠.cls c) (nd:h.Ns1 d mA) (r:R mA):IV C N h R (.ref a)
inductive lV (P:Value→Prop)(Q:List Value→Prop):List Value→Prop
 |mk {v:Value} {l:List Value} (p:P v) (q:Q l):lV P Q (v::l)
inductive qE (x:Nm)(P:Value→Prop)(Q:(PySem.Str→Option Value)→Prop)(m:PySem.Str→Option Value):Prop
 |mk {v:Value} {m':PySem.Str→Option Value} (p:P v) (q:Q m') (e:∀y,m y=if y=mkS x then some v else m' y):qE x P Q m
mutual
noncomputable def Rep (C:Cx)(X:Addr→Prop)(h:Heap):PV→Value→Prop
 |.none=>fun v=>v=.none
 |.bool b=>fun v=>v=.bool b
 |.int i=>dY i
 |.str s=>iD s
 |.bytes b=>ByV b
 |.list xs=>LV (fun a=>¬ X a) h aS (Reps C X h xs)
 |.tuple xs=>LV (fun a=>¬ X a) h aW (Reps C X h xs)
 |.inst fs=>IV C (fun a=>¬ X a) h (RepF C X h fs)
noncomputable def Reps (C:Cx)(X:Addr→Prop)(h:Heap):List PV→List Value→Prop
 |[]=>fun vs=>vs=[]
 |d::r=>lV (Rep C X h d) (Reps C X h r)
noncomputable def RepF (C:Cx)(X:Addr→Prop)(h:Heap):List (List Nat × PV)→(PySem.Str→Option Value)→Prop
 |[]=>fun m=>∀y,m y=none
 |p::r=>qE p.1 (Rep C X h p.2) (RepF C X h r)
end
structure Fit (X Y:Addr→Prop)(h h':Heap):Prop where
 k:aG X h h'
 s:∀a o,h.get? a=some o→¬ X a→¬ Y a
section
variable {C:Cx}{X Y N N':Addr→Prop}{h h':Heap}{T:List Value→Nat→Obj}{R R':List Value→Prop}{Q Q':(PySem.Str→Option Value)→Prop}
theorem LV.map {v:Value}(r:LV N h T R v)(f:∀a o,N a→h.get? a=some o→N' a∧h'.get? a=some o)(g:∀l,R l→R' l):LV N' h' T R' v:=by
 cases r with |mk x e r=>exact ⟨(f _ _ x e).1,(f _ _ x e).2,g _ r⟩
theorem IV.map {v:Value}(r:IV C N h Q v)(f:∀a o,N a→h.get? a=some o→N' a∧h'.get? a=some o)(g:∀l,Q l→Q' l):IV C N' h' Q' v:=by
 cases r with |mk x x' ne e oc od on nd r=>
  obtain ⟨o',es,ep,g',r'⟩:=id nd
  exact ⟨(f _ _ x e).1,(f _ _ x' g').1,ne,(f _ _ x e).2,oc,od,on,nd.at fun o'' e''=>(f _ _ x' e'').2,g _ r⟩
theorem Fit.map (k:Fit X Y h h')(a:Addr)(o:Obj)(n:¬ X a)(e:h.get? a=some o):¬ Y a∧h'.get? a=some o:=⟨k.s a o e n,k.k a o e n⟩
theorem Fit.of (k:aG X h h'):Fit X X h h':=⟨k,fun zz zz zz n=>n⟩
theorem Fit.nox (k:aG NoX h h'):Fit X X h h':=.of k.any
mutual
theorem Rep.keep (k:Fit X Y h h'):∀(d:PV) {v:Value},Rep C X h d v→Rep C Y h' d v
 |.none,_,r=>r
 |.bool _,_,r=>r
 |.int _,_,r=>r
 |.str _,_,r=>r
 |.bytes _,_,r=>r
 |.list xs,_,r=>LV.map r k.map fun l=>Reps.keep k xs (vs:=l)
 |.tuple xs,_,r=>LV.map r k.map fun l=>Reps.keep k xs (vs:=l)
 |.inst fs,_,r=>IV.map r k.map fun l=>RepF.keep k fs (m:=l)
theorem Reps.keep (k:Fit X Y h h'):∀(ds:List PV) {vs:List Value},Reps C X h ds vs→Reps C Y h' ds vs
 |[],_,r=>r
 |d::ds,_,r=>lV.casesOn (motive:=fun vs zz=>lV (Rep C Y h' d) (Reps C Y h' ds) vs) r fun p q=>⟨Rep.keep k d p,Reps.keep k ds q⟩
theorem RepF.keep (k:Fit X Y h h'):∀(fs:List (List Nat × PV)) {m:PySem.Str→Option Value},RepF C X h fs m→RepF C Y h' fs m
 |[],_,r=>r
 |p::fs,m,r=>qE.casesOn (motive:=fun zz=>qE p.1 (Rep C Y h' p.2) (RepF C Y h' fs) m) r fun a b e=>⟨Rep.keep k p.2 a,RepF.keep k fs b,e⟩
end
theorem Reps.length:∀{ds:List PV} {vs:List Value},Reps C X h ds vs→ds.length=vs.length
 |[],_,r=>(congrArg List.length r).symm
 |_::ds,_,⟨_,q⟩=>congrArg (·+1) (Reps.length (ds:=ds) q)
theorem Reps.append {ds':List PV}{vs':List Value}(r':Reps C X h ds' vs'):∀{ds:List PV} {vs:List Value},Reps C X h ds vs→Reps C X h (ds++ds') (vs++vs')
 |[],_,r=>by cases r; exact r'
 |_::ds,_,⟨p,q⟩=>⟨p,Reps.append r' (ds:=ds) q⟩
theorem Reps.get:∀{ds:List PV} {vs:List Value},Reps C X h ds vs→∀(i:Nat) (d:PV),ds[i]?=some d→∃v,vs[i]?=some v∧Rep C X h d v
 |x::_,_,⟨p,_⟩,0,_,e=>⟨_,rfl,Option.some.inj e▸p⟩
 |_::ds,_,⟨_,q⟩,i+1,d,e=>Reps.get (ds:=ds) q i d e
end
theorem jB (s:PySem.Str):mkS (nm s)=s:=by cases s; rfl
theorem aCD {a b:PySem.Str}(h:nm a=nm b):a=b:=by rw [←jB a,h,jB]
theorem qF {a b:Nm}(h:mkS a=mkS b):a=b:=congrArg nm h
theorem bH:∀{a b:List Nat},aC a b=true→a=b
 |[],[],_=>rfl
 |x::l,y::m,h=>by
  have h:=Bool.and_eq_true_iff.mp (show ((x==y) && aC l m)=true from h)
  rw [eq_of_beq h.1,bH h.2]
theorem fV:∀a:List Nat,aC a a=true
 |[]=>rfl
 |x::l=>by show ((x==x) && aC l l)=true; rw [beq_self_eq_true,fV l]; rfl
theorem nL {a b:List Nat}(h:a≠b):aC a b=false:=Bool.eq_false_iff.mpr fun e=>h (bH e)
theorem lW {α:Type}(x y:Nm)(v:α):∀l:List (Nm × α),aD y (aU x v l)=if y=x then some v else aD y l
 |[]=>by
  show (bif aC x y then some v else none)=if y=x then some v else none
  by_cases h:y=x
  ·rw [if_pos h,h,fV]; rfl
  ·rw [if_neg h,nL (Ne.symm h)]; rfl
 |p::r=>by
  have ih:=lW x y v r
  show aD y (bif aC p.1 x then (p.1,v)::r else p::aU x v r)=if y=x then some v else bif aC p.1 y then some p.2 else aD y r
  by_cases hz:p.1=x
  ·rw [hz,fV]
   show (bif aC x y then some v else aD y r)=_
   by_cases h:y=x
   ·rw [if_pos h,h,fV]; rfl
   ·rw [if_neg h,nL (Ne.symm h)]; rfl
  ·rw [nL hz]
   show (bif aC p.1 y then some p.2 else aD y (aU x v r))=_
   rw [ih]
   by_cases h:y=x
   ·rw [if_pos h,if_pos h,nL (h▸hz)]; rfl
   ·rw [if_neg h,if_neg h]
inductive bJ (env:Env)(h:Heap)(x:PySem.Str)(v:Value):Prop
 |loc {m:PySem.Str→Option Value} (k:env.kindOf x=some .local) (n:h.Ns env.locals m) (e:m x=some v):bJ env h x v
 |cell {c:Addr} (k:env.kindOf x=some .cell∨(env.kindOf x=some .free∧(x==("__classdict__" : PySem.Str))=false)) (l:env.cells.lookup x=some c) (e:h.IsCell c (some v)):bJ env h x v
theorem iE {M:Model}{A:Around}{E:Value→Shared→Prop}{s:Shared}{env:Env}{x:PySem.Str}{v:Value}{Q:Value→Shared→Prop}(hk:env.scope.kind=.function)(n:bJ env s.heap x v)(h:Q v s):wpAny M A (loadName env x) Q E s:=by
 cases n with
 |loc k n e=>exact wpAny_loadName_local hk k n e h
 |cell k l e=>exact k.elim (fun k=>wpAny_loadName_cell hk k l e h) fun k=>wpAny_loadName_free hk k.1 l e h k.2
theorem IsCell.keepX {X:Addr→Prop}{h h':Heap}{c:Addr}{v:Option Value}(x:h.IsCell c v)(k:aG X h h')(n:¬ X c):h'.IsCell c v:=
 x.elim fun o q=>⟨o,k c o q.1 n,q.2⟩
theorem Ns.keepX {X:Addr→Prop}{h h':Heap}{a:Addr}{m:PySem.Str→Option Value}(x:h.Ns a m)(k:aG X h h')(n:¬ X a):h'.Ns a m:=
 let ⟨o,es,ep,ho,r⟩:=x; ⟨o,es,ep,k a o ho n,r⟩
theorem bJ.keep {env:Env}{h h':Heap}{x:PySem.Str}{v:Value}(n:bJ env h x v)(k:aG NoX h h'):bJ env h' x v:=by
 cases n with
 |loc l n e=>exact .loc l (Ns.keepX n k id) e
 |cell l c e=>exact .cell l c (IsCell.keepX e k id)
inductive ItV (tg:Option Nat)(X:Addr→Prop)(h:Heap)(xs:List PV):Value→Prop
 |mk {a:Addr} {b:List Nat} {t:Tok} {k:Nat} {o:Obj} (ht:∀c,tg=some c→c=a) (x:X a) (hb:∀c∈b,c<256) (g:h.get? a=some o) (oc:o.cls=.type "bytes_iterator") (od:o.data=.fields #[.bytes (b.map fun c=>c.toUInt8).toArray t,.int k 0])
  (e:xs=(b.drop k).map fun c=>PV.int (Int.ofNat c)):ItV tg X h xs (.ref a)
noncomputable def cP (C:Cx)(X:Addr→Prop)(h:Heap):List (List Int)→List Value→Prop
 |[]=>fun vs=>vs=[]
 |r::t=>lV (LV X h aS (Reps C X h (r.map .int))) (cP C X h t)
noncomputable abbrev Ap:List Value→Prop:=List.Pairwise fun u v=>∀a,u=.ref a→v≠.ref a
inductive tG (C:Cx)(X:Addr→Prop)(h:Heap)(t:List (List Int)):Value→Prop
 |mk {a:Addr} {its:List Value} {n:Nat} (x:X a) (g:h.get? a=some (aS its n)) (r:cP C X h t its) (nd:Ap its) (na:Value.ref a∉its):tG C X h t (.ref a)
noncomputable def bU (C:Cx)(X:Addr→Prop)(h:Heap)(s:Slot)(v:Value):Prop:=Slot.casesOn (motive:=fun zz=>Prop) s (fun d=>Rep C X h d v) (fun xs=>LV X h aS (Reps C X h xs) v) (fun tg xs=>ItV tg X h xs v) (fun fs=>C.me v∧IV C X h (RepF C X h fs) v) (fun t=>tG C X h t v)
inductive BU (h:Heap):Value→Addr→Prop
 |me {a:Addr}:BU h (.ref a) a
 |dict {a b:Addr} {o:Obj} (g:h.get? b=some o) (e:o.dict=some a):BU h (.ref b) a
inductive BV (h:Heap):Value→Addr→Prop
 |me {a:Addr}:BV h (.ref a) a
 |row {a b:Addr} {its:List Value} {n:Nat} (g:h.get? b=some (aS its n)) (m:Value.ref a∈its):BV h (.ref b) a
noncomputable def aT (h:Heap)(s:Slot)(v:Value)(a:Addr):Prop:=Slot.casesOn (motive:=fun zz=>Prop) s (fun zz=>False) (fun zz=>v=.ref a) (fun zz zz=>v=.ref a) (fun zz=>BU h v a) (fun zz=>BV h v a)
section
variable {C:Cx}{X Y:Addr→Prop}{h h':Heap}
theorem cP.map (k:Fit X Y h h'):∀{t:List (List Int)} {its:List Value},cP C X h t its→(∀a,Value.ref a∈its→Y a∧∀o,h.get? a=some o→h'.get? a=some o)→cP C Y h' t its
 |[],_,r,_=>r
 |xs::t,_,r,f=>by
  cases r with |mk p q=>
  cases p with |mk x g p=>exact ⟨.mk (f _ (.head _)).1 ((f _ (.head _)).2 _ g) (Reps.keep k _ p),cP.map k q fun a m=>f a (.tail _ m)⟩
theorem cP.row:∀{t:List (List Int)} {its:List Value},cP C X h t its→∀{a:Addr},Value.ref a∈its→X a∧∃o,h.get? a=some o
 |[],_,r,a,m=>by cases r; cases m
 |xs::t,_,r,a,m=>by
  cases r with |mk p q=>
  cases m with
  |head=>cases p with |mk x g p=>exact ⟨x,_,g⟩
  |tail _ m=>exact cP.row q m
theorem bU.mono (k:Fit X Y h h'){sl:Slot}{v:Value}(r:bU C X h sl v)(f:∀a,aT h sl v a→Y a∧∀o,h.get? a=some o→h'.get? a=some o):bU C Y h' sl v:=by
 cases sl with
 |fz d=>exact Rep.keep k d r
 |own xs=>
  cases r with |mk x g q=>exact ⟨(f _ rfl).1,(f _ rfl).2 _ g,Reps.keep k xs q⟩
 |iter tg xs=>
  cases r with |mk ht x hb g oc od e=>exact ⟨ht,(f _ rfl).1,hb,(f _ rfl).2 _ g,oc,od,e⟩
 |self fs=>
  cases r with |intro hm r=>cases r with |mk x x' ne g oc od on nd q=>
   have kd:=f _ (.dict g od)
   exact ⟨hm,(f _ .me).1,kd.1,ne,(f _ .me).2 _ g,oc,od,on,nd.at kd.2,RepF.keep k fs q⟩
 |own2 t=>
  cases r with |mk x g q nd na=>exact ⟨(f _ .me).1,(f _ .me).2 _ g,q.map k fun a m=>f a (.row g m),nd,na⟩
theorem bU.owned {sl:Slot}{v:Value}(r:bU C X h sl v)(a:Addr)(w:aT h sl v a):X a∧∃o,h.get? a=some o:=by
 cases sl with
 |fz d=>exact w.elim
 |own xs=>cases r with |mk x g q=>cases w; exact ⟨x,_,g⟩
 |iter tg xs=>cases r with |mk ht x hb g oc od e=>cases w; exact ⟨x,_,g⟩
 |self fs=>
  cases r with |intro hm r=>cases r with |mk x x' ne g oc od on nd q=>cases w with
   |me=>exact ⟨x,_,g⟩
   |dict g2 e=>
    obtain ⟨o2,_,_,g3,_⟩:=nd
    rw [g] at g2; cases g2; rw [od] at e; cases e
    exact ⟨x',_,g3⟩
 |own2 t=>cases r with |mk x g q nd na=>cases w with
  |me=>exact ⟨x,_,g⟩
  |row g2 m=>
   rw [g] at g2; cases g2
   exact q.row m
theorem bU.keep (k:aG NoX h h'){sl:Slot}{v:Value}(r:bU C X h sl v):bU C X h' sl v:=
 r.mono (.nox k) fun a w=>⟨(r.owned a w).1,fun o e=>k a o e id⟩
theorem aT.back {sl:Slot}{v:Value}(r:bU C X h sl v)(k:∀a,aT h sl v a→∀o,h.get? a=some o→h'.get? a=some o){a:Addr}(w:aT h' sl v a):aT h sl v a:=by
 cases sl with
 |self fs=>
  cases r with |intro hm r=>cases r with |mk x x' ne g oc od on nd q=>cases w with
   |me=>exact .me
   |dict g2 e=>
    rw [k _ .me _ g] at g2; cases g2
    exact .dict g e
 |own2 t=>
  cases r with |mk x g q nd na=>cases w with
   |me=>exact .me
   |row g2 m=>
    rw [k _ .me _ g] at g2; cases g2
    exact .row g m
 |_=>exact w
end
noncomputable def aCE (env:Env)(x:PySem.Str)(k:NameKind):Prop:=NameKind.casesOn (motive:=fun zz=>Prop) k (env.kindOf x=some .local) (env.kindOf x=some .cell∧∃c,env.cells.lookup x=some c)
 ((env.kindOf x=some .cell∨(env.kindOf x=some .free∧(x==("__classdict__" : PySem.Str))=false))∧∃c,env.cells.lookup x=some c) True (env.kindOf x=some .globalImplicit)
noncomputable def aCF (K:Ks)(env:Env):Prop:=∀(x:Nm) (k:NameKind),dP x K=some k→aCE env (mkS x) k
noncomputable def Fra (env:Env)(a:Addr):Prop:=a=env.locals∨∃y,env.cells.lookup y=some a
structure qG (C:Cx)(X B:Addr→Prop)(env:Env)(h:Heap)(σ:Sg)(V:Nm→Value):Prop where
 at_:∀x sl,aD x σ=some sl→bJ env h (mkS x) (V x)
 ok:∀x sl,aD x σ=some sl→bU C X h sl (V x)
 apart:∀x y sl sl',x≠y→aD x σ=some sl→aD y σ=some sl'→∀a,aT h sl (V x) a→¬ aT h sl' (V y) a
 fra:∀x sl,aD x σ=some sl→∀a,aT h sl (V x) a→¬ Fra env a
 noB:∀x sl,aD x σ=some sl→∀a,aT h sl (V x) a→¬ B a
structure aK (C:Cx)(K:Ks)(X B:Addr→Prop)(env:Env)(h:Heap)(σ:Sg):Prop where
 fn:env.scope.kind=.function
 glo:env.globals=C.gl
 bui:env.builtins=C.bi
 base:aG NoX C.hb h
 newB:∀a,X a→C.hb.get? a=none
 ns:∃m,h.Ns env.locals m
 locX:X env.locals
 cellX:∀x c,env.cells.lookup x=some c→X c∧c≠env.locals∧∃v,h.IsCell c v
 apart:∀x y c,env.cells.lookup x=some c→env.cells.lookup y=some c→x=y
 kinds:aCF K env
 bnd:∀a,X a→∃o,h.get? a=some o
 bX:∀a,B a→X a
 fB:∀a,Fra env a→¬ B a
 slots:∃V:Nm→Value,qG C X B env h σ V
noncomputable abbrev BW (C:Cx)(K:Ks)(X:Addr→Prop)(env:Env)(h:Heap)(σ:Sg):Prop:=aK C K X NoX env h σ
section
variable {C:Cx}{K:Ks}{X B:Addr→Prop}{env:Env}{h h':Heap}{σ:Sg}
theorem qG.keep {V:Nm→Value}(q:qG C X B env h σ V)(k:aG NoX h h'):qG C X B env h' σ V:=
 have b:∀{x sl a},aD x σ=some sl→aT h' sl (V x) a→aT h sl (V x) a:=fun hx=>aT.back (q.ok _ _ hx) fun b zz o hb=>k b o hb id
 ⟨fun x sl hx=>(q.at_ x sl hx).keep k,fun x sl hx=>(q.ok x sl hx).keep k,fun x y sl sl' ne hx hy a wa wb=>q.apart x y sl sl' ne hx hy a (b hx wa) (b hy wb),fun x sl hx a wa=>q.fra x sl hx a (b hx wa),fun x sl hx a wa=>q.noB x sl hx a (b hx wa)⟩
theorem aK.slot (e:aK C K X B env h σ){x:Nm}{sl:Slot}(hx:aD x σ=some sl):∃v,bJ env h (mkS x) v∧bU C X h sl v:=
 e.slots.elim fun V q=>⟨V x,q.at_ x sl hx,q.ok x sl hx⟩
theorem aK.keep (e:aK C K X B env h σ)(k:aG NoX h h'):aK C K X B env h' σ:=
 ⟨e.fn,e.glo,e.bui,e.base.trans k,e.newB,e.ns.elim fun m hm=>⟨m,Ns.keepX hm k id⟩,e.locX,
  fun x c hc=>⟨(e.cellX x c hc).1,(e.cellX x c hc).2.1,(e.cellX x c hc).2.2.elim fun v hv=>⟨v,IsCell.keepX hv k id⟩⟩,e.apart,e.kinds,fun a x=>(e.bnd a x).elim fun o q=>⟨o,k a o q id⟩,e.bX,e.fB,
  e.slots.elim fun V q=>⟨V,q.keep k⟩⟩
theorem aK.newX (e:aK C K X B env h σ):¬ X h.objs.size:=fun x=>(e.bnd _ x).elim fun o q=>Nat.lt_irrefl _ (Heap.lt_size q)
end
section
variable {α β:Type}
theorem aB {o:Option α}{f:α→Option β}{y:β}{G:Prop}(h:o.bind f=some y)(k:∀x,o=some x→f x=some y→G):G:=by
 cases o with
 |none=>cases h
 |some x=>exact k x rfl h
@[elab_as_elim] theorem aO {o:Option α}{f:α→β}{y:β}{G:β→Prop}(h:o.map f=some y)(k:∀x,o=some x→G (f x)):G y:=by
 cases o with
 |none=>cases h
 |some x=>cases h; exact k x rfl
theorem oif {c:Bool}{o:Option α}{y:α}{G:Prop}(h:(bif c then o else none)=some y)(k:c=true→o=some y→G):G:=by
 cases c with
 |true=>exact k rfl h
 |false=>cases h
theorem dI {c:Bool}{o:Option α}{y:α}{G:Prop}(h:(bif c then none else o)=some y)(k:c=false→o=some y→G):G:=by
 cases c with
 |true=>cases h
 |false=>exact k rfl h
@[elab_as_elim] theorem aQ {x y:α}{G:α→Prop}(h:some x=some y)(k:G x):G y:=by cases h; exact k
theorem aP {a b:Bool}{G:Prop}(h:(a && b)=true)(k:a=true→b=true→G):G:=by
 cases a with
 |true=>exact k rfl h
 |false=>cases h
theorem no {α:Type}{x:α}{G:Prop}(h:none=some x):G:=by cases h
theorem dZ {a:Bool}(h:(!a)=true):a=false:=by cases a <;> first |rfl |cases h
theorem dec {p:Prop}[Decidable p](h:decide p=true):p:=of_decide_eq_true h
end
structure Th where
 prog:Program
 w:World
 C:Cx
 P:Around→Prop
noncomputable def Tr {α:Type}(M:Model)(A:Around)(t:Sem α)(s:Shared)(R:α→Shared→Prop):Prop:=∀Q E,(∀a s',R a s'→Q a s')→wpAny M A t Q E s
theorem Tr.of {α:Type}{M:Model}{A:Around}{t:Sem α}{s:Shared}{R:α→Shared→Prop}(h:∀E,wpAny M A t R E s):Tr M A t s R:=fun Q E k=>wpAny_mono (h E) k fun zz zz e=>e
theorem QL {α:Type}{M:Model}{A:Around}{s:Shared}{m:Sem α}{Q Q':α→Shared→Prop}{E:Value→Shared→Prop}(h:wpAny M A m Q E s)(k:∀a s',Q a s'→Q' a s'):wpAny M A m Q' E s:=wpAny_mono h k fun zz zz z=>z
structure Ext (X:Addr→Prop)(s s':Shared):Prop where
 keep:aG X s.heap s'.heap
 os:s'.os=s.os
 gens:s'.gens=s.gens
theorem Ext.refl (X:Addr→Prop)(s:Shared):Ext X s s:=⟨aG.refl _ _,rfl,rfl⟩
theorem Ext.trans {X:Addr→Prop}{s s' s'':Shared}(a:Ext X s s')(b:Ext X s' s''):Ext X s s'':=⟨a.keep.trans b.keep,b.os.trans a.os,b.gens.trans a.gens⟩
theorem Ext.mono {X Y:Addr→Prop}{s s':Shared}(a:Ext X s s')(i:∀x,X x→Y x):Ext Y s s':=⟨a.keep.mono i,a.os,a.gens⟩
theorem Ext.any {X:Addr→Prop}{s s':Shared}(a:Ext NoX s s'):Ext X s s':=a.mono fun zz f=>f.elim
theorem Ext.tok (X:Addr→Prop)(s:Shared)(t:Tok):Ext X s {s with toks:=t}:=⟨aG.refl _ _,rfl,rfl⟩
theorem Ext.pushed (X:Addr→Prop)(s:Shared)(o:Obj):Ext X s {s with heap:=s.heap.push o}:=⟨aG.push _ _ _,rfl,rfl⟩
noncomputable def aV (C:Cx)(X:Addr→Prop)(h:Heap)(d:EV)(v:Value):Prop:=EV.casesOn (motive:=fun zz=>Prop) d (fun d=>Rep C X h d v) (fun xs=>LV (fun zz=>True) h aS (Reps C X h xs) v)
structure ER (C:Cx)(X:Addr→Prop)(s:Shared)(d:EV)(v:Value)(s':Shared):Prop where
 x:Ext NoX s s'
 r:aV C X s'.heap d v
structure VR {α:Type}(s:Shared)(b b':α)(s':Shared):Prop where
 x:Ext NoX s s'
 e:b'=b
section
variable {C:Cx}{X:Addr→Prop}{h h':Heap}{s s₁ s₂:Shared}{d d':EV}{v v':Value}
theorem aV.keep (k:aG NoX h h')(r:aV C X h d v):aV C X h' d v:=by
 cases d with
 |v d=>exact Rep.keep (.nox k) d r
 |h xs=>exact LV.map r (fun a o zz e=>⟨trivial,k a o e id⟩) fun l=>Reps.keep (.nox k) xs
theorem ER.to (q:ER C X s d v s₁)(q':ER C X s₁ d' v' s₂):ER C X s d' v' s₂:=⟨q.x.trans q'.x,q'.r⟩
theorem ER.pre (x:Ext NoX s s₁)(q':ER C X s₁ d' v' s₂):ER C X s d' v' s₂:=⟨x.trans q'.x,q'.r⟩
theorem ER.vr {α:Type}{b b':α}(q:ER C X s d v s₁)(q':VR s₁ b b' s₂):VR s b b' s₂:=⟨q.x.trans q'.x,q'.e⟩
theorem ER.on (q:ER C X s d v s₁)(q':ER C X s₁ d' v' s₂):aV C X s₂.heap d v:=q.r.keep q'.x.keep
theorem aV.of_slot {sl:Slot}(e:PX sl=some d)(r:bU C X h sl v):aV C X h d v:=by
 cases sl with
 |fz x=>cases e; exact r
 |own xs=>cases e; exact LV.map r (fun a o zz e=>⟨trivial,e⟩) fun l r=>r
 |iter tg xs=>cases e
 |self fs=>cases e
 |own2 t=>cases e
theorem dJ {xs:List PV}(hp:asL d.pv=some xs)(q:aV C X h d v):LV (fun zz=>True) h aS (Reps C X h xs) v:=by
 cases d with
 |h ys=>exact Option.some.inj hp▸q
 |v d=>cases d <;> first |exact no hp |exact Option.some.inj hp▸LV.map q (fun a o zz e=>⟨trivial,e⟩) fun l r=>r
theorem qH {x:List Nat}(hp:asS d.pv=some x)(q:aV C X h d v):iD x v:=by
 cases d with
 |h ys=>exact no hp
 |v d=>cases d <;> first |exact no hp |exact Option.some.inj hp▸q
theorem cL {x:Int}(hp:asI d.pv=some x)(q:aV C X h d v):dY x v:=by
 cases d with
 |h ys=>exact no hp
 |v d=>cases d <;> first |exact no hp |exact Option.some.inj hp▸q
end
structure bE (T:Th)(G:Gl)(σ:Sg)(A:Around)(X:Addr→Prop)(env:Env)(s:Shared):Prop where
 pa:T.P A
 e:BW T.C G.sc X env s.heap σ
theorem bE.ext {T:Th}{G:Gl}{σ:Sg}{A:Around}{X:Addr→Prop}{env:Env}{s s':Shared}(c:bE T G σ A X env s)(x:Ext NoX s s'):bE T G σ A X env s':=⟨c.pa,c.e.keep x.keep⟩
theorem bE.er {T:Th}{G:Gl}{σ:Sg}{A:Around}{X:Addr→Prop}{env:Env}{s s':Shared}{d:EV}{v:Value}(c:bE T G σ A X env s)(q:ER T.C X s d v s'):bE T G σ A X env s':=c.ext q.x
noncomputable def qI (T:Th)(G:Gl)(e:E)(σ:Sg)(d:EV):Prop:=
 ∀A X env s,bE T G σ A X env s→Tr (model T.prog T.w) A (eval e.b env) s (ER T.C X s d)
noncomputable def aF (T:Th)(G:Gl)(e:E):Prop:=∀σ d,ev G e σ=some d→qI T G e σ d
section
variable {T:Th}{G:Gl}{σ:Sg}
theorem aCG {c:Const}{k:Nat}{p:Pos}:aF T G (.const c k p):=fun σ d h=>aO h fun d h A X env s zz=>by
 cases c with
 |none=>exact aQ h fun Q E q=>wpAny_Constant_none (q _ _ ⟨Ext.refl _ _,rfl⟩)
 |bool b=>exact aQ h fun Q E q=>wpAny_Constant_bool (q _ _ ⟨Ext.refl _ _,rfl⟩)
 |int i=>exact aQ h fun Q E q=>wpAny_Constant_int (q _ _ ⟨Ext.tok _ _ _,.mk _⟩)
 |str x=>exact aQ h fun Q E q=>wpAny_Constant_str (q _ _ ⟨Ext.tok _ _ _,.mk _⟩)
 |_=>exact no h
theorem jC {x:Nm}(h:aC x eQ=false):(mkS x==("__debug__" : PySem.Str))=false:=
 Bool.eq_false_iff.mpr fun e=>Bool.false_ne_true (h.symm.trans (by rw [show x=eQ from congrArg nm (eq_of_beq e)]; decide))
theorem QM {x:Nm}{p:Pos}:aF T G (.name x p):=fun σ d h=>dI h fun hd h=>aB h fun sl hx h A X env s c Q E q=>by
 obtain ⟨v,n,r⟩:=c.e.slot hx
 exact wpAny_Name (iE c.e.fn n (q v s ⟨Ext.refl _ _,aV.of_slot h r⟩)) (jC hd)
end
section
variable {prog:Program}{w:World}{A:Around}{s:Shared}{C:Cx}{X:Addr→Prop}{Q:Value→Shared→Prop}{E:Value→Shared→Prop}
theorem QN {a:Int}{n:Nat}(h:a.natAbs.log2<n):Builtin.Int.intBits a≤n:=by
 unfold Builtin.Int.intBits
 split
 ·exact Nat.zero_le _
 ·exact h
theorem aCH {x y:Int}(h1:x.natAbs.log2<1000000)(h2:y.natAbs.log2<1000000):IntMulOk x y:=by
 have h3:=Nat.add_le_add (QN h1) (QN h2)
 have:bitsLine=134217728:=by decide
 unfold IntMulOk Builtin.Int.intTooBig
 simp only [Bool.and_eq_true,decide_eq_true_eq,not_and,gt_iff_lt]
 intro _ _
 omega
theorem BY {y:Int}(h:(y==0)=false):y≠0:=fun e=>Bool.false_ne_true (h.symm.trans (beq_iff_eq.mpr e))
theorem aCI {op:Operator}{x y r:Int}{t u:Tok}(h:PH op x y=some r):Tr (model prog w) A (binaryOp op (.int x t) (.int y u)) s (ER C X s (.v (.int r))):=by
 have done:∀r,ER C X s (.v (.int r)) (.int r s.toks) {s with toks:=s.toks+1}:=fun r=>⟨Ext.tok _ _ _,.mk _⟩
 cases op with
 |Add=>exact aQ h fun Q E q=>PyProof.Rows.add_int (q _ _ (done _))
 |Sub=>exact aQ h fun Q E q=>PyProof.Rows.sub_int (q _ _ (done _))
 |Mult=>exact oif h fun c h=>aP c fun c1 c2=>aQ h fun Q E q=>PyProof.Rows.mul_int (q _ _ (done _)) (aCH (dec c1) (dec c2))
 |FloorDiv=>exact oif h fun c h=>aP c fun c1 c2=>aQ h fun Q E q=>PyProof.Rows.floordiv_int (BY (dZ c1)) (q _ _ (done _)) (Or.inl (PyProof.noPylong_of_log2 (dec c2)))
 |Mod=>exact dI h fun c h=>aQ h fun Q E q=>PyProof.Rows.mod_int (BY c) (q _ _ (done _))
 |LShift=>exact oif h fun c h=>aP c fun c c3=>aP c fun c1 c2=>aQ h fun Q E q=>PyProof.Rows.lshift_int_small (dec c1) (dec c2) (dec c3) (q _ _ (done _))
 |RShift=>exact oif h fun c h=>aQ h fun Q E q=>PyProof.Rows.rshift_int (dec c) (q _ _ (done _))
 |BitAnd=>exact aQ h fun Q E q=>PyProof.Rows.and_int (q _ _ (done _))
 |BitOr=>exact aQ h fun Q E q=>PyProof.Rows.or_int (q _ _ (done _))
 |BitXor=>exact aQ h fun Q E q=>PyProof.Rows.xor_int (q _ _ (done _))
 |_=>exact no h
theorem jD {n:Nat}(h:bG n=true):n≤sizeLine:=dec h
theorem BZ {xs:List PV}{its:List Value}(hX:¬ X s.heap.objs.size)(q:Reps C X s.heap xs its):ER C X s (.v (.list xs)) (.ref s.heap.objs.size) {s with heap:=s.heap.push (aS its 0)}:=
 ⟨Ext.pushed _ _ _,hX,Heap.get?_push_size _ rfl,Reps.keep (.nox (aG.push _ _ _)) xs q⟩
theorem jE {h:Heap}{a:Addr}(e:h.objs.size≤a):h.get? a=none:=by
 cases q:h.get? a with
 |none=>rfl
 |some o=>exact absurd (Nat.lt_of_lt_of_le (Heap.lt_size q) e) (Nat.lt_irrefl _)
structure FrI (s:Shared)(its:List Value):Prop where
 nd:Ap its
 nw:∀a,Value.ref a∈its→s.heap.get? a=none
inductive CA (q:Bool)(C:Cx)(X:Addr→Prop)(s:Shared)(xs:List PV)(s':Shared):Value→Prop
 |mk {a:Addr} {its:List Value} {n:Nat} (nw:s.heap.get? a=none) (fi:q=true→FrI s its) (g:s'.heap.get? a=some (aS its n)) (r:Reps C (fun b=>X b∨b=a) s'.heap xs its):CA q C X s xs s' (.ref a)
structure FR (b:Bool)(C:Cx)(X:Addr→Prop)(s:Shared)(d:EV)(v:Value)(s':Shared):Prop where
 e:ER C X s d v s'
 f:∀xs,d=.v (.list xs)→CA b C X s xs s' v
theorem Ext.old {s s':Shared}(x:Ext NoX s s'){a:Addr}(n:s'.heap.get? a=none):s.heap.get? a=none:=by
 cases g:s.heap.get? a with
 |none=>rfl
 |some o=>exact absurd ((x.keep a o g id).symm.trans n) nofun
theorem FR.pre {b:Bool}{s₁ s':Shared}{d:EV}{v:Value}(x:Ext NoX s s₁)(q:FR b C X s₁ d v s'):FR b C X s d v s':=⟨.pre x q.e,fun xs h=>by cases q.f xs h with |mk nw fi g r=>exact ⟨x.old nw,fun e=>⟨(fi e).nd,fun a m=>x.old ((fi e).nw a m)⟩,g,r⟩⟩
theorem CB {xs:List PV}{its:List Value}(hX:¬ X s.heap.objs.size)(q:Reps C X s.heap xs its):FR false C X s (.v (.list xs)) (.ref s.heap.objs.size) {s with heap:=s.heap.push (aS its 0)}:=
 ⟨BZ hX q,fun ys h=>by cases h; exact ⟨jE (Nat.le_refl _),nofun,Heap.get?_push_size _ rfl,Reps.keep ⟨aG.push _ _ _,fun a o g n h=>h.elim n fun e=>Nat.lt_irrefl _ (e▸Heap.lt_size g)⟩ xs q⟩⟩
theorem QO {xs:List PV}{its:List Value}(q:Reps C X s.heap xs its):∀n:Nat,Reps C X s.heap (rep n xs) (rep n its)
 |0=>rfl
 |n+1=>Reps.append (QO q n) q
theorem CC {α:Type}(l:List α):∀(n:Nat) (acc:Array α),(List.foldl (fun x1 x2=>x1++x2) acc (List.replicate n l.toArray))=(acc.toList++rep n l).toArray
 |0,acc=>by rw [show rep 0 l=[] from rfl,List.append_nil]; rfl
 |n+1,acc=>by rw [List.replicate_succ,List.foldl_cons,CC l n,Array.toList_append,PG,List.append_assoc]
theorem wG {α:Type}:∀n:Nat,rep n ([]:List α)=[]
 |0=>rfl
 |n+1=>wG n
theorem QP {α:Type}(l:List α):∀n:Nat,(rep n l).length=n*l.length
 |0=>(Nat.zero_mul _).symm
 |n+1=>by rw [PG,List.length_append,QP l n,Nat.succ_mul,Nat.add_comm]
end
section
variable {α:Type}{x:List α}{n:Int}{y:List α}
structure tH (x:List α)(n:Int):Prop where
 hi:n<65536
 z:x.length*n.toNat≤16777216
 lo:-65536<n
theorem qJ (h:PI x n=some y):y=rep n.toNat x∧tH x n:=oif h fun c h=>aP c fun c c3=>aP c fun c1 c2=>⟨(Option.some.inj h).symm,dec c1,dec c2,dec c3⟩
theorem qK {z:List α}(h:mX x y=some z):z=x++y∧x.length+y.length≤16777216:=oif h fun c h=>⟨(Option.some.inj h).symm,dec c⟩
theorem tH.hix (r:tH x n):n≤2 ^ 63-1∧-(2 ^ 63)≤n:=⟨by have:=r.hi; exact Int.le_of_lt (Int.lt_of_lt_of_le this (by decide)),by have:=r.lo; exact Int.le_trans (by decide) this⟩
end
section
variable {prog:Program}{w:World}{A:Around}{s:Shared}{C:Cx}{X:Addr→Prop}
theorem aCJ {α:Type}(l:List α)(n:Nat):(List.foldl (fun x1 x2=>x1++x2) #[] (List.replicate (if l.toArray.isEmpty=true then 0 else n) l.toArray))=(rep n l).toArray:=by
 rw [CC]
 cases l with
 |nil=>rw [wG,wG]; rfl
 |cons a l=>rfl
theorem aCK {a:Addr}{its:List Value}{n:Nat}{x:Int}{u:Tok}{E:Value→Shared→Prop}{Q:Value→Shared→Prop}(ha:s.heap.get? a=some (aS its n))(r:tH its x)
  (h:Q (.ref s.heap.objs.size) {s with heap:=s.heap.push (aS (rep x.toNat its) 0)}):wpAny (model prog w) A (binaryOp .Mult (.ref a) (.int x u)) Q E s:=by
 have h1:=r.hix
 have h2:=r.z
 refine wpAny_binaryOp_repeat_ref (T := "list") (U := "int") (by decide) ⟨_,ha,rfl⟩ (fun s'=>typeIs_int s' x u) noFill_list_mul F.fills_int_mul F.slot_int_rmul repeat_list F.slot_int_index.lookup
  (call_meets F.slot_int_rmul (typeIs_int s x u) F.entry_int_rmul (F.args_int_rmul_2 _ _) (int___rmul___int_list x u a its.toArray n)
   ⟨ha,rfl,⟨_,ha,rfl⟩,call_meets F.slot_list_mul ⟨_,ha,rfl⟩ F.entry_list_mul (F.args_list_mul_2 _ _)
    (AutoListH.list___mul___list_int_3 a its.toArray n x u ?_ ?_ ?_) ⟨ha,aCJ its x.toNat▸h⟩⟩)
 ·simp [Builtin.List.listFitsIndex]; omega
 ·simp; exact Nat.le_trans h2 (by decide)
 ·simp [Builtin.List.listTooLong,sizeLine]; exact h2
theorem aCL {x:List Nat}{t u:Tok}{n:Int}(r:tH x n):Tr (model prog w) A (binaryOp .Mult (iC x t) (.int n u)) s (ER C X s (.v (.str (rep n.toNat x)))):=fun Q E q=>by
 have h1:=r.hix
 have h2:=r.z
 have done:∀(y:List Nat) (t':Tok) (tk:Nat),y=rep n.toNat x→Q (iC y t') {s with toks:=tk}:=fun y t' tk e=>q _ _ ⟨Ext.tok _ _ _,e▸.mk t'⟩
 refine PySem.P.mul_str (x:=⟨x.toArray⟩) (n:=n) ?_ ?_ ?_ ?_
 ·simp; omega
 ·intro g1 g2
  have hx:x.length*1≤x.length*n.toNat:=Nat.mul_le_mul_left _ (by omega)
  refine Int.not_lt.mpr (Int.le_trans (Int.ofNat_le.mpr (Nat.le_trans (Nat.le_trans (Nat.le_of_eq (Nat.mul_one _).symm) hx) h2)) ?_)
  refine (Int.le_ediv_iff_mul_le (by exact Int.not_lt.mp g1)).mpr (Int.le_trans (Int.mul_le_mul_of_nonneg_left (Int.le_of_lt r.hi) (by decide)) (by decide))
 ·intro g1 g2
  exact short24 h2
 ·split
  ·rename_i g
   exact ⟨by decide,done [] _ _ (by rw [show n.toNat=0 by omega]; rfl)⟩
  ·split
   ·rename_i g g'
    refine done x t s.toks ?_
    cases Bool.or_eq_true_iff.mp g' with
    |inl g'=>rw [eq_of_beq g']; exact (List.append_nil _).symm
    |inr g'=>rw [show x=[] from List.eq_nil_of_length_eq_zero (eq_of_beq g'),wG]
   ·rw [CC]
    exact ⟨(by show (rep n.toNat x).length≤sizeLine; rw [QP,Nat.mul_comm]; exact h2),done _ _ _ rfl⟩
theorem aCM {op:Operator}{a b:EV}{d:PV}{x y:Value}(hX:¬ X s.heap.objs.size)(h:AX op a.pv b.pv=some d)(qa:aV C X s.heap a x)(qb:aV C X s.heap b y):
  Tr (model prog w) A (binaryOp op x y) s (FR false C X s (.v d)):=by
 generalize hp:a.pv=p at h
 cases p with
 |int i=>
  exact aB h fun j hj h=>aO h fun r hr=>by
   cases cL (congrArg asI hp) qa
   cases cL hj qb
   exact fun Q E k=>aCI hr Q E fun v s' q=>k v s' ⟨q,nofun⟩
 |str z=>cases op with
  |Add=>
   exact aB h fun j hj h=>aO h fun l hl Q E q=>by
    cases qH (x:=z) (congrArg asS hp) qa
    cases qH hj qb
    cases (qK hl).1
    exact PyProof.Rows.add_str (fun t' tk=>q _ _ ⟨⟨Ext.tok _ _ _,(by show iD (z++j) (.str ⟨z.toArray++j.toArray⟩ t'); rw [List.append_toArray]; exact .mk t')⟩,nofun⟩) (qK hl).2
  |Mult=>
   exact aB h fun j hj h=>aO h fun l hl=>by
    cases qH (x:=z) (congrArg asS hp) qa
    cases cL hj qb
    cases (qJ hl).1
    exact fun Q E k=>aCL (qJ hl).2 Q E fun v s' q=>k v s' ⟨q,nofun⟩
  |_=>exact no h
 |list z=>cases op with
  |Add=>
   exact aB h fun j hj h=>aO h fun l hl Q E q=>by
    cases dJ (xs:=z) (congrArg asL hp) qa with |mk _ ga ra=>
    cases dJ hj qb with |mk _ gb rb=>
    cases (qK hl).1
    refine PySem.P.add_list (items:=_) (items2:=_) ga gb ?_ ?_
    ·rw [List.append_toArray]
     exact q _ _ (CB hX (Reps.append rb ra))
    ·exact Nat.le_trans (Nat.le_of_eq (by rw [ra.length,rb.length]; rfl)) (qK hl).2
  |Mult=>
   exact aB h fun j hj h=>aO h fun l hl Q E q=>by
    cases dJ (xs:=z) (congrArg asL hp) qa with |mk _ ga ra=>
    cases cL hj qb
    cases (qJ hl).1
    exact aCK ga ⟨(qJ hl).2.hi,ra.length▸(qJ hl).2.z,(qJ hl).2.lo⟩ (q _ _ (CB hX (QO ra j.toNat)))
  |_=>exact no h
 |_=>exact no h
end
noncomputable def iF (T:Th)(G:Gl)(e:E):Prop:=∀σ d,ev G e σ=some d→∀A X env s,bE T G σ A X env s→Tr (model T.prog T.w) A (eval e.b env) s (FR (fr2 e) T.C X s d)
theorem iF.e {T:Th}{G:Gl}{e:E}(h:iF T G e):aF T G e:=fun σ d hd A X env s c Q E k=>h σ d hd A X env s c Q E fun v s' q=>k v s' q.e
theorem aCN {T:Th}{G:Gl}{l r:E}{op:Operator}{p:Pos}(hl:aF T G l)(hr:aF T G r):iF T G (.bin l op r p):=
 fun σ d h=>aB h fun a ha h=>aB h fun b hb h=>aO (G:=fun d=>∀A X env s,bE T G σ A X env s→Tr (model T.prog T.w) A (eval (E.bin l op r p).b env) s (FR false T.C X s d)) h fun x hx A X env s c Q E k=>wpAny_BinOp (hl σ a ha A X env s c _ E fun v s₁ q=>hr σ b hb A X env s₁ (c.er q) _ E fun u s₂ q'=>aCM (c.er (q.to q')).e.newX hx (q.on q') q'.r _ E fun v s₃ q2=>k v s₃ (.pre (q.x.trans q'.x) q2))
inductive aZ (P:E→Prop):List E→Prop
 |nil:aZ P []
 |cons {e:E} {r:List E} (p:P e) (q:aZ P r):aZ P (e::r)
theorem bR {o:Option EV}{d:PV}(h:bB o=some d):o=some (.v d):=aB h fun x hx h=>by
 cases x with
 |v d'=>rw [hx,Option.some.inj h]
 |h l=>exact no h
noncomputable def eA:List (Option EV)→Option (List EV)
 |[]=>some []
 |o::r=>o.bind fun d=>(eA r).map (d::·)
theorem jF:∀{os:List (Option EV)} {l:List PV},cV os=some l→eA os=some (l.map .v)
 |[],_,h=>aQ h rfl
 |o::r,_,h=>aB h fun d hd h=>aO h fun l hl=>by
  show o.bind _=_
  rw [bR hd]
  show (eA r).map _=_
  rw [jF hl]
  rfl
theorem QQ:∀os:List (Option EV),iY os=(eA os).map (·.map EV.pv)
 |[]=>rfl
 |none::r=>rfl
 |some d::r=>by
  show (iY r).map _=((eA r).map _).map _
  rw [QQ r]
  cases eA r <;> rfl
noncomputable def EVs (C:Cx)(X:Addr→Prop)(h:Heap):List EV→List Value→Prop
 |[]=>fun vs=>vs=[]
 |d::r=>lV (aV C X h d) (EVs C X h r)
structure ERs (C:Cx)(X:Addr→Prop)(s:Shared)(ds:List EV)(vs:List Value)(s':Shared):Prop where
 x:Ext NoX s s'
 r:EVs C X s'.heap ds vs
theorem EVs.reps {C:Cx}{X:Addr→Prop}{h:Heap}:∀{l:List PV} {vs:List Value},EVs C X h (l.map .v) vs→Reps C X h l vs
 |[],_,r=>r
 |d::l,_,⟨q,q'⟩=>⟨q,EVs.reps (l:=l) q'⟩
theorem QR {G:Gl}{e:E}{σ:Sg}{d:EV}(h:ev G e σ=some d)(rest:List Expr)(env:Env):starEach (e.b::rest) env=(false,eval e.b env)::starEach rest env:=by
 cases e <;> first |rfl |exact no h
section
variable {T:Th}{G:Gl}{σ:Sg}{A:Around}{X:Addr→Prop}{env:Env}
theorem wH {pos:Pos}{es:List E}(hs:aZ (aF T G) es):∀{ds:List EV},eA (evs G es σ)=some ds→∀{s:Shared},bE T G σ A X env s →
  Tr (model T.prog T.w) A (spliced (backTo pos (starEach (bs es) env))) s (ERs T.C X s ds):=by
 induction hs with
 |nil=>exact fun h s c=>aQ h fun Q E k=>wpAny_items_nil (k _ _ ⟨Ext.refl _ _,rfl⟩)
 |cons p q ih=>exact fun h s c=>aB h fun d hd h=>aO h fun m hm Q E k=>
   wpAny_items_cons (p σ d hd A X env s c _ E fun v s₁ q1=>ih hm (c.er q1) _ E fun vs s₂ q2=>k _ _ ⟨q1.x.trans q2.x,q1.r.keep q2.x.keep,q2.r⟩) (QR hd _ env)
theorem QS {C:Cx}{s:Shared}{xs:List PV}{its:List Value}(hX:¬ X s.heap.objs.size)(q:Reps C X s.heap xs its):ER C X s (.v (.tuple xs)) (.ref s.heap.objs.size) {s with heap:=s.heap.push (aW its 0)}:=
 ⟨Ext.pushed _ _ _,hX,Heap.get?_push_size _ rfl,Reps.keep (.nox (aG.push _ _ _)) xs q⟩
theorem nM {C:Cx}{h:Heap}{l:List PV}{vs:List Value}(c:bG l.length=true)(r:Reps C X h l vs):vs.length≤sizeLine:=r.length▸jD c
theorem aCO {es:List E}{p:Pos}(hs:aZ (aF T G) es):iF T G (.list es p):=fun σ d h=>aB h fun l hl h=>oif h fun z h=>aQ (G:=fun d=>∀A X env s,bE T G σ A X env s→Tr (model T.prog T.w) A (eval (E.list es p).b env) s (FR false T.C X s d)) h fun A X env s c Q E k=>
 wpAny_List (wH hs (jF hl) c _ E fun vs s₁ q=>⟨nM z q.r.reps,k _ _ (.pre q.x (CB (c.ext q.x).e.newX q.r.reps))⟩)
theorem aCP {es:List E}{n:Nat}{p:Pos}(hs:aZ (aF T G) es):aF T G (.tup es n p):=fun σ d h=>aB h fun l hl h=>oif h fun z h=>aQ h fun A X env s c Q E k=>
 wpAny_Tuple (wH hs (jF hl) c _ E fun vs s₁ q=>⟨nM z q.r.reps,k _ _ (.pre q.x (QS (c.ext q.x).e.newX q.r.reps))⟩)
theorem eR {C:Cx}{h:Heap}{d:EV}{v:Value}(x:PV)(hp:d.pv=x)(r:aV C X h d v)(n:∀l,x≠.list l):Rep C X h x v:=by
 cases d with
 |v d=>exact hp▸r
 |h l=>exact absurd hp.symm (n l)
theorem QT {C:Cx}{s:Shared}{d:EV}{v:Value}{b:Bool}(h:vN d.pv=some b)(q:aV C X s.heap d v):Tr (model T.prog T.w) A (truthy v) s (VR s b):=by
 generalize hp:d.pv=p at h
 cases p with
 |none=>
  cases eR _ hp q (fun zz=>nofun)
  exact aQ h fun Q E k=>fun zz zz zz=>k _ _ ⟨Ext.refl _ _,rfl⟩
 |bool c=>
  cases eR _ hp q (fun zz=>nofun)
  exact aQ h fun Q E k=>wpAny_truthy_bool (k _ _ ⟨Ext.refl _ _,rfl⟩)
 |int i=>
  cases cL (congrArg asI hp) q
  exact aQ h fun Q E k=>PySem.P.truthy_int (k _ _ ⟨Ext.refl _ _,rfl⟩)
 |_=>exact no h
noncomputable def aCQ (T:Th)(G:Gl)(e:E)(σ:Sg)(b:Bool):Prop:=
 ∀A X env s,bE T G σ A X env s→Tr (model T.prog T.w) A (isTrue e.b env (eval e.b env)) s (VR s b)
noncomputable def dC (T:Th)(G:Gl)(e:E):Prop:=∀σ b,tr G e σ (ev G e σ)=some b→aCQ T G e σ b
theorem sIf {t a b:E}{p:Pos}(ht:dC T G t)(ha:aF T G a)(hb:aF T G b):aF T G (.ite t a b p):=fun σ d h=>aB h fun c hc h A X env s x Q E k=>
 wpAny_IfExp (ht σ c hc A X env s x _ E fun b' s₁ q=>by
  cases q.e
  cases c with
  |true=>exact ha σ d h A X env s₁ (x.ext q.x) _ E fun v s₂ q2=>k v s₂ (.pre q.x q2)
  |false=>exact hb σ d h A X env s₁ (x.ext q.x) _ E fun v s₂ q2=>k v s₂ (.pre q.x q2))
theorem aCR {x:E}{p:Pos}(hx:aF T G x):aF T G (.not x p):=fun σ d h=>aB h fun y hy h=>aO h fun b hb A X env s c Q E k=>
 wpAny_UnaryOp (hx σ y hy A X env s c _ E fun v s₁ q=>not_value (QT hb q.r _ E fun b' s₂ q2=>k _ _ ⟨q.x.trans q2.x,congrArg (fun b=>Value.bool !b) q2.e⟩))
theorem aCS {x:E}{p:Pos}(hx:aF T G x):aF T G (.neg x p):=fun σ d h=>aO h fun i hi=>aB hi fun y hy hi A X env s c Q E k=>
 wpAny_UnaryOp (hx σ _ (bR hy) A X env s c _ E fun v s₁ q=>by
  cases cL (d:=.v y) hi q.r
  exact PySem.P.neg_int (k _ _ ⟨q.x.trans (Ext.tok _ _ _),.mk _⟩))
theorem aCT {x:E}{p:Pos}(hx:dC T G x):dC T G (.not x p):=fun σ b h=>aO h fun c hc A X env s e Q E k=>
 wpAny_isTrue_Not (hx σ c hc A X env s e _ E fun b' s₁ q=>k _ _ ⟨q.x,congrArg (!·) q.e⟩)
theorem aCU {es:List E}(hs:aZ (dC T G) es):∀{b:Bool},trs G .And es σ=some b→∀{s:Shared},bE T G σ A X env s →
  Tr (model T.prog T.w) A (allTrue .And (bs es) env) s (VR s b):=by
 induction hs with
 |nil=>exact fun h s c=>aQ h fun Q E k=>wpAny_allTrue_And_nil (k _ _ ⟨Ext.refl _ _,rfl⟩)
 |cons p q ih=>exact fun h s c=>aB h fun t ht h Q E k=>
   wpAny_allTrue_And_cons (p σ t ht A X env s c _ E fun b' s₁ q1=>by
    cases q1.e
    cases t with
    |false=>exact k _ _ ⟨q1.x,Option.some.inj h⟩
    |true=>exact ih h (c.ext q1.x) _ E fun b' s₂ q2=>k _ _ ⟨q1.x.trans q2.x,q2.e⟩)
theorem aCV {es:List E}(hs:aZ (dC T G) es):∀{b:Bool},trs G .Or es σ=some b→∀{s:Shared},bE T G σ A X env s →
  Tr (model T.prog T.w) A (allTrue .Or (bs es) env) s (VR s b):=by
 induction hs with
 |nil=>exact fun h s c=>aQ h fun Q E k=>wpAny_allTrue_Or_nil (k _ _ ⟨Ext.refl _ _,rfl⟩)
 |cons p q ih=>exact fun h s c=>aB h fun t ht h Q E k=>
   wpAny_allTrue_Or_cons (p σ t ht A X env s c _ E fun b' s₁ q1=>by
    cases q1.e
    cases t with
    |true=>exact k _ _ ⟨q1.x,Option.some.inj h⟩
    |false=>exact ih h (c.ext q1.x) _ E fun b' s₂ q2=>k _ _ ⟨q1.x.trans q2.x,q2.e⟩)
theorem aCW {op:BoolOp}{es:List E}{p:Pos}(hs:aZ (dC T G) es):dC T G (.bool op es p):=fun σ b h A X env s c Q E k=>by
 cases op with
 |And=>exact wpAny_isTrue_BoolOp (aCU hs h c Q E k)
 |Or=>exact wpAny_isTrue_BoolOp (aCV hs h c Q E k)
theorem aCX {G:Gl}{x:E}{σ:Sg}{b:Bool}(hb:vW x=true)(h:tr G x σ (ev G x σ)=some b):ev G x σ=some (.v (.bool b)):=by
 cases x with
 |cmp l ops cs p=>
  refine aB h fun d hd ht=>?_
  obtain ⟨c,rfl⟩:∃c,d=.v (.bool c):=oif hd fun zz e=>aB e fun a zz e=>aO e fun c zz=>⟨c,rfl⟩
  exact hd.trans (congrArg (fun b=>some (EV.v (.bool b))) (Option.some.inj ht))
 |inS l x xp p=>
  refine aB h fun d hd ht=>?_
  obtain ⟨c,rfl⟩:∃c,d=.v (.bool c):=aB hd fun a zz e=>oif e fun zz e=>aO e fun c zz=>⟨c,rfl⟩
  exact hd.trans (congrArg (fun b=>some (EV.v (.bool b))) (Option.some.inj ht))
 |_=>exact absurd hb Bool.false_ne_true
theorem QU {x:E}{t:Bool}(hx:aF T G x)(hb:vW x=true)(h:tr G x σ (ev G x σ)=some t)(c:bE T G σ A X env s):Tr (model T.prog T.w) A (eval x.b env) s (VR s (Value.bool t)):=
 fun Q E k=>hx σ _ (aCX hb h) A X env s c Q E fun v s₁ q=>k v s₁ ⟨q.x,q.r⟩
theorem aCY {op:BoolOp}{p:Pos}{es:List E}(hs:aZ (aF T G) es):(es.all vW)=true→bP es=false→∀{b:Bool},trs G op es σ=some b→∀{s:Shared},bE T G σ A X env s →
  Tr (model T.prog T.w) A (boolOp p op (evalEach (bs es) env)) s (VR s (Value.bool b)):=by
 induction hs with
 |nil=>exact fun zz h=>Bool.noConfusion h
 | @cons x r hx hr ih=>
  intro ha _ b h s c
  obtain ⟨h1,h2⟩:=Bool.and_eq_true_iff.mp ha
  refine aB h fun t ht h=>?_
  cases r with
  |nil=>
   have e:b=t:=by
    cases op <;> cases t <;> exact (Option.some.inj h).symm
   exact e▸QU hx h1 ht c
  |cons y r=>
   intro Q E k
   show wpAny _ _ (eval x.b env>>=_) _ _ _
   refine wpAny_bind (QU hx h1 ht c _ E fun v s₁ q=>wpAny_bind (wpAny_standAt (wpAny_bind (wpAny_holding ?_))))
   cases q.e
   refine wpAny_truthy_bool ?_
   cases op with
   |And=>cases t with
    |false=>exact wpAny_pure (k _ _ ⟨q.x,congrArg Value.bool (Option.some.inj h)⟩)
    |true=>exact ih h2 rfl h (c.ext q.x) _ E fun v s₂ q2=>k _ _ ⟨q.x.trans q2.x,q2.e⟩
   |Or=>cases t with
    |true=>exact wpAny_pure (k _ _ ⟨q.x,congrArg Value.bool (Option.some.inj h)⟩)
    |false=>exact ih h2 rfl h (c.ext q.x) _ E fun v s₂ q2=>k _ _ ⟨q.x.trans q2.x,q2.e⟩
theorem not_true {b:Bool}(h:(!b)=true):b=false:=by
 cases b with
 |true=>cases h
 |false=>rfl
theorem aCZ {op:BoolOp}{es:List E}{p:Pos}(hs:aZ (aF T G) es):aF T G (.bool op es p):=fun σ d h=>oif h fun g h=>aO h fun b hb A X env s c Q E k=>
 aCY hs (Bool.and_eq_true_iff.mp g).2 (not_true (Bool.and_eq_true_iff.mp g).1) hb c Q E fun v s₁ q=>k v s₁ ⟨q.x,q.e⟩
end
noncomputable def fW (T:Th):Prop:=
 ∀op a b r A X s x y,T.P A→PK op a.pv b.pv=some r→aV T.C X s.heap a x→aV T.C X s.heap b y→Tr (model T.prog T.w) A (compareOp op x y) s (VR s (Value.bool r))
theorem VR.trans {α β:Type}{s s₁ s₂:Shared}{c c':β}{b b':α}(q:VR s c c' s₁)(q':VR s₁ b b' s₂):VR s b b' s₂:=⟨q.x.trans q'.x,q'.e⟩
theorem wJ {M:Model}{A:Around}{s:Shared}{Q:Bool→Shared→Prop}{E:Value→Shared→Prop}{v:Value}{t:Bool}(e:v=.bool t)(k:Q t s):wpAny M A (truthy v) Q E s:=by
 subst e
 exact wpAny_truthy_bool k
section
variable {T:Th}{G:Gl}{σ:Sg}{A:Around}{X:Addr→Prop}{env:Env}
theorem aDa (hc:fW T){pos:Pos}{es:List E}(hs:aZ (aF T G) es):∀{ops:List CmpOp},ops.length=es.length→∀{a:EV} {r:Bool},pY a.pv ops (evs G es σ)=some r →
  ∀{s:Shared} {x:Value},bE T G σ A X env s→aV T.C X s.heap a x→Tr (model T.prog T.w) A (compareChain pos x ops (evalEach (bs es) env)) s (VR s (Value.bool r)):=by
 induction hs with
 |nil=>exact fun l a r h=>by cases List.eq_nil_of_length_eq_zero l; exact no h
 |cons p ps ih=>
  intro ops l
  cases ops with
  |nil=>cases l
  |cons op ops=>
   exact fun h s x c qa=>aB h fun b hb h=>aB h fun t ht h=>by
    cases ps with
    |nil=>cases ops with
     |nil=>exact aQ h fun Q E k=>chain_last (p σ b hb A X env s c _ E fun v s₁ q=>hc op _ b t A X s₁ x v c.pa ht (qa.keep q.x.keep) q.r _ E fun v' s₂ q2=>k _ _ (q.vr q2))
     |cons op' ops=>cases l
    |cons p' ps=>cases ops with
     |nil=>cases l
     |cons op' ops=>exact fun Q E k=>chain_link (p σ b hb A X env s c _ E fun v s₁ q=>hc op _ b t A X s₁ x v c.pa ht (qa.keep q.x.keep) q.r _ E fun v' s₂ q2=>wJ q2.e (by
       cases t with
       |true=>exact ih (Nat.succ.inj l) h ((c.er q).ext q2.x) (q.r.keep q2.x.keep) _ E fun v s₃ q3=>k _ _ (q.vr (q2.trans q3))
       |false=>exact k _ _ ⟨q.x.trans q2.x,q2.e.trans (congrArg Value.bool (Option.some.inj h))⟩))
theorem aDb (hc:fW T){pos:Pos}{es:List E}(hs:aZ (aF T G) es):∀{ops:List CmpOp},ops.length=es.length→∀{a:EV} {r:Bool},pY a.pv ops (evs G es σ)=some r →
  ∀{s:Shared} {x:Value},bE T G σ A X env s→aV T.C X s.heap a x→Tr (model T.prog T.w) A (testChain pos x ops (evalEach (bs es) env)) s (VR s r):=by
 induction hs with
 |nil=>exact fun l a r h=>by cases List.eq_nil_of_length_eq_zero l; exact no h
 |cons p ps ih=>
  intro ops l
  cases ops with
  |nil=>cases l
  |cons op ops=>
   exact fun h s x c qa=>aB h fun b hb h=>aB h fun t ht h=>by
    cases ps with
    |nil=>cases ops with
     |nil=>exact aQ h fun Q E k=>test_last (p σ b hb A X env s c _ E fun v s₁ q=>hc op _ b t A X s₁ x v c.pa ht (qa.keep q.x.keep) q.r _ E fun v' s₂ q2=>wJ q2.e (k _ _ ⟨q.x.trans q2.x,rfl⟩))
     |cons op' ops=>cases l
    |cons p' ps=>cases ops with
     |nil=>cases l
     |cons op' ops=>exact fun Q E k=>test_link (p σ b hb A X env s c _ E fun v s₁ q=>hc op _ b t A X s₁ x v c.pa ht (qa.keep q.x.keep) q.r _ E fun v' s₂ q2=>wJ q2.e (by
       cases t with
       |true=>exact ih (Nat.succ.inj l) h ((c.er q).ext q2.x) (q.r.keep q2.x.keep) _ E fun v s₃ q3=>k _ _ (q.vr (q2.trans q3))
       |false=>exact k _ _ ⟨q.x.trans q2.x,Option.some.inj h⟩))
theorem QV {l:E}{ops:List CmpOp}{cs:List E}{pos:Pos}(h:lastMarks ops (bs cs)=false):eval (.Compare l.b ops (bs cs) pos) env=(do compareChain pos (←eval l.b env) ops (evalEach (bs cs) env)):=by
 show (do compareChain pos (←eval l.b env) ops (markedEach ops (bs cs) (evalEach (bs cs) env)))=_
 rw [markedEach_of_false _ _ _ h]
theorem aDc (hc:fW T){l:E}{ops:List CmpOp}{cs:List E}{p:Pos}(hl:aF T G l)(hs:aZ (aF T G) cs):aF T G (.cmp l ops cs p):=fun σ d h=>oif h fun g h=>aP g fun g1 g2=>aB h fun a ha h=>aO h fun r hr A X env s c Q E k=>by
 show wpAny _ _ (eval (.Compare l.b ops (bs cs) p) env) Q E s
 rw [QV (dZ g1)]
 exact wpAny_bind (hl σ a ha A X env s c _ E fun v s₁ q=>aDa hc hs (eq_of_beq g2) hr (c.er q) q.r _ E fun v' s₂ q2=>k _ _ ⟨q.x.trans q2.x,q2.e⟩)
theorem aDd (hc:fW T){l:E}{ops:List CmpOp}{cs:List E}{p:Pos}(hl:aF T G l)(hs:aZ (aF T G) cs):dC T G (.cmp l ops cs p):=fun σ b h=>aB h fun d hd h=>oif hd fun g hd=>aP g fun g1 g2=>aB hd fun a ha hd A X env s c Q E k=>by
 have hr:pY a.pv ops (evs G cs σ)=some b:=aO (G:=fun (d:EV)=>vN d.pv=some b→pY a.pv ops (evs G cs σ)=some b) hd (fun r hr h=>hr.trans h) h
 show wpAny _ _ (do testChain p (←eval l.b env) ops (markedEach ops (bs cs) (evalEach (bs cs) env))) Q E s
 rw [markedEach_of_false _ _ _ (dZ g1)]
 exact wpAny_bind (hl σ a ha A X env s c _ E fun v s₁ q=>aDb hc hs (eq_of_beq g2) hr (c.er q) q.r _ E fun v' s₂ q2=>k _ _ ⟨q.x.trans q2.x,q2.e⟩)
end
theorem QW (a b:List Nat):((⟨a.toArray⟩:PySem.Str)==⟨b.toArray⟩)=aC a b:=by
 cases h:aC a b with
 |true=>rw [bH h]; exact beq_self_eq_true _
 |false=>exact beq_eq_false_iff_ne.mpr fun e=>Bool.false_ne_true (h.symm.trans (by rw [show a=b from congrArg nm e]; exact fV b))
mutual
theorem CD:∀a b:PV,PyData.eqv (toD a) (toD b)=eqD a b
 |.none,b=>PV.casesOn (motive_1:=fun b=>PyData.eqv (toD .none) (toD b)=eqD .none b) b rfl (fun zz=>rfl) (fun zz=>rfl) (fun zz=>rfl) (fun zz=>rfl) (fun zz=>rfl) (fun zz=>rfl) (fun zz=>rfl)
 |.bool x,b=>PV.casesOn (motive_1:=fun b=>PyData.eqv (toD (.bool x)) (toD b)=eqD (.bool x) b) b rfl (fun zz=>rfl) (fun zz=>rfl) (fun zz=>rfl) (fun zz=>rfl) (fun zz=>rfl) (fun zz=>rfl) (fun zz=>rfl)
 |.int x,b=>PV.casesOn (motive_1:=fun b=>PyData.eqv (toD (.int x)) (toD b)=eqD (.int x) b) b rfl (fun zz=>rfl) (fun zz=>rfl) (fun zz=>rfl) (fun zz=>rfl) (fun zz=>rfl) (fun zz=>rfl) (fun zz=>rfl)
 |.str x,b=>PV.casesOn (motive_1:=fun b=>PyData.eqv (toD (.str x)) (toD b)=eqD (.str x) b) b rfl (fun zz=>rfl) (fun zz=>rfl) (fun zz=>QW x _) (fun zz=>rfl) (fun zz=>rfl) (fun zz=>rfl) (fun zz=>rfl)
 |.bytes x,b=>PV.casesOn (motive_1:=fun b=>PyData.eqv (toD (.bytes x)) (toD b)=eqD (.bytes x) b) b rfl (fun zz=>rfl) (fun zz=>rfl) (fun zz=>rfl) (fun zz=>rfl) (fun zz=>rfl) (fun zz=>rfl) (fun zz=>rfl)
 |.list x,b=>PV.casesOn (motive_1:=fun b=>PyData.eqv (toD (.list x)) (toD b)=eqD (.list x) b) b rfl (fun zz=>rfl) (fun zz=>rfl) (fun zz=>rfl) (fun zz=>rfl) (fun y=>eqDs_eqv x y) (fun zz=>rfl) (fun zz=>rfl)
 |.tuple x,b=>PV.casesOn (motive_1:=fun b=>PyData.eqv (toD (.tuple x)) (toD b)=eqD (.tuple x) b) b rfl (fun zz=>rfl) (fun zz=>rfl) (fun zz=>rfl) (fun zz=>rfl) (fun zz=>rfl) (fun y=>eqDs_eqv x y) (fun zz=>rfl)
 |.inst x,b=>PV.casesOn (motive_1:=fun b=>PyData.eqv (toD (.inst x)) (toD b)=eqD (.inst x) b) b rfl (fun zz=>rfl) (fun zz=>rfl) (fun zz=>rfl) (fun zz=>rfl) (fun zz=>rfl) (fun zz=>rfl) (fun zz=>rfl)
theorem eqDs_eqv:∀a b:List PV,PyData.eqvAll (toDs a) (toDs b)=eqDs a b
 |[],b=>List.casesOn (motive:=fun b=>PyData.eqvAll (toDs []) (toDs b)=eqDs [] b) b rfl fun zz zz=>rfl
 |x::l,b=>List.casesOn (motive:=fun b=>PyData.eqvAll (toDs (x::l)) (toDs b)=eqDs (x::l) b) b rfl fun y m=>congr (congrArg and (CD x y)) (eqDs_eqv l m)
end
theorem QX (a:PV):∀xs:List PV,((toDs xs).any fun y=>PyData.eqv y (toD a))=xs.any fun y=>eqD y a
 |[]=>rfl
 |x::r=>congr (congrArg or (CD x a)) (QX a r)
structure Lay (n:Nat)(d:PV):Prop where
 c:(toD d).canLay0=true
 l:(toD d).depth≤n
 r:∀(C:Cx) (X:Addr→Prop) (h:Heap) (v:Value),Rep C X h d v→∃as,Reads h v (toD d) as
structure CE (n:Nat)(ds:List PV):Prop where
 c:PyData.canLayAll0 (toDs ds)=true
 l:PyData.depthAll (toDs ds)≤n
 r:∀(C:Cx) (X:Addr→Prop) (h:Heap) (vs:List Value),Reps C X h ds vs→∃as,ReadsAll h vs (toDs ds) as
theorem QY {f:List PV→Bool}{n:Nat}(hf:∀xs,f xs=true→CE n xs)(d:PV)(h:ok0 f d=true):Lay (n+1) d:=by
 cases d with
 |none=>exact ⟨rfl,Nat.zero_le _,fun C X h v r=>by cases r; exact ⟨_,.none⟩⟩
 |bool b=>exact ⟨rfl,Nat.zero_le _,fun C X h v r=>by cases r; exact ⟨_,.bool b⟩⟩
 |int i=>exact ⟨rfl,Nat.zero_le _,fun C X h v r=>by cases r; exact ⟨_,.int i _⟩⟩
 |str s=>exact ⟨(by show (⟨s.toArray⟩:PySem.Str).cps.all (fun c=>decide (c<1114112))=true; rw [List.all_toArray]; exact h),Nat.zero_le _,fun C X h v r=>by cases r; exact ⟨_,.str _ _⟩⟩
 |list xs=>exact ⟨(hf xs h).c,Nat.succ_le_succ (hf xs h).l,fun C X h' v r=>by cases r with |mk x g q=>exact ((hf xs h).r C X h' _ q).elim fun as ra=>⟨_,.list g rfl rfl ra⟩⟩
 |tuple xs=>exact ⟨(hf xs h).c,Nat.succ_le_succ (hf xs h).l,fun C X h' v r=>by cases r with |mk x g q=>exact ((hf xs h).r C X h' _ q).elim fun as ra=>⟨_,.tuple g rfl rfl ra⟩⟩
 |_=>cases h
theorem wK {f:PV→Bool}{n:Nat}(hf:∀d,f d=true→Lay n d):∀ds:List PV,ds.all f=true→CE n ds
 |[],_=>⟨rfl,Nat.zero_le _,fun C X h vs r=>by cases r; exact ⟨_,.nil⟩⟩
 |d::ds,h=>aP (G:=CE n (d::ds)) h fun h1 h2=>⟨Bool.and_eq_true_iff.mpr ⟨(hf d h1).c,(wK hf ds h2).c⟩,Nat.max_le.mpr ⟨(hf d h1).l,(wK hf ds h2).l⟩,fun C X h vs r=>by
   cases r with |mk p q=>exact ((hf d h1).r C X h _ p).elim fun as ra=>((wK hf ds h2).r C X h _ q).elim fun bs rb=>⟨_,.cons ra rb⟩⟩
theorem iG:∀(n:Nat) (d:PV),okN n d=true→Lay (n+1) d
 |0=>QY fun zz h=>by cases h
 |n+1=>QY (wK (iG n))
theorem Lay.shaped {d:PV}(q:Lay 9 d):SeqAt.shaped (toD d)=true:=Bool.and_eq_true_iff.mpr ⟨q.c,decide_eq_true (Nat.le_trans q.l (by decide))⟩
theorem Lay.reads {d:EV}(q:Lay 9 d.pv){C:Cx}{X:Addr→Prop}{h:Heap}{v:Value}(r:aV C X h d v):∃as,Reads h v (toD d.pv) as:=by
 cases d with
 |v d=>exact q.r C X h v r
 |h xs=>exact q.r C NoX h v (LV.map r (fun a o zz e=>⟨id,e⟩) fun l=>Reps.keep ⟨fun zz zz e zz=>e,fun zz zz zz zz=>id⟩ xs)
section
variable {T:Th}{A:Around}{X:Addr→Prop}{s:Shared}{a b:EV}{x y:Value}
theorem QZ {r:Bool}(h:pT a.pv b.pv=some r)(qa:aV T.C X s.heap a x)(qb:aV T.C X s.heap b y){G:Prop}
  (k:∀as bs,Reads s.heap x (toD a.pv) as→Reads s.heap y (toD b.pv) bs→SeqAt.shaped (toD a.pv)=true→SeqAt.shaped (toD b.pv)=true→PyData.eqv (toD a.pv) (toD b.pv)=r→G):G:=
 oif h fun c h=>aP c fun c1 c2=>((iG 8 _ c1).reads qa).elim fun as ra=>((iG 8 _ c2).reads qb).elim fun bs rb=>k as bs ra rb (iG 8 _ c1).shaped (iG 8 _ c2).shaped ((CD _ _).trans (Option.some.inj h))
theorem RA {r:Bool}{xs:List PV}(hb:asL b.pv=some xs)(h:AY a.pv xs=some r)(qa:aV T.C X s.heap a x)(qb:aV T.C X s.heap b y)(hu:A.units+65<cLine){G:Prop}
  (k:∀as bs,Reads s.heap y (.list (toDs xs)) as→Reads s.heap x (toD a.pv) bs→PyData.canLayAll0 (toDs xs)=true→(toD a.pv).canLay0=true→A.units+1+min (PyData.depthAll (toDs xs)) (toD a.pv).depth<cLine→((toDs xs).any fun y=>PyData.eqv y (toD a.pv))=r→G):G:=
 oif h fun c h=>aP c fun c1 c2=>((iG 8 (.list xs) c1).reads (d:=.h xs) (dJ hb qb)).elim fun as ra=>((iG 8 _ c2).reads qa).elim fun bs rb=>
  k as bs ra rb (iG 8 (.list xs) c1).c (iG 8 _ c2).c (room_in_shaped (iG 8 _ c2).shaped hu) ((QX _ _).trans (Option.some.inj h))
theorem aDe {p:PV}(h:isN p=true):p=.none:=by
 cases p <;> first |rfl |cases h
theorem wL {C:Cx}{h:Heap}{d:EV}{v:Value}(hn:isN d.pv=true)(q:aV C X h d v):v=.none:=eR .none (aDe hn) q fun zz=>nofun
theorem aDf {p:PV}{t:Bool}(h:asB p=some t):p=.bool t:=by
 cases p <;> first |exact no h |exact congrArg PV.bool (Option.some.inj h)
theorem aDg {r:Bool}(h:isP a.pv b.pv=some r)(qa:aV T.C X s.heap a x)(qb:aV T.C X s.heap b y):Tr (model T.prog T.w) A (compareOp .Is x y) s (VR s (Value.bool r)):=by
 generalize ha:a.pv=pa at h
 cases pa with
 |none=>
  cases eR _ ha qa (fun zz=>nofun)
  exact oif h fun c h=>aQ h fun Q E k=>by
   cases wL c qb
   exact is_none (k _ _ ⟨Ext.refl _ _,rfl⟩)
 |bool c=>
  cases eR _ ha qa (fun zz=>nofun)
  exact aO h fun t ht Q E k=>by
   cases eR _ (aDf ht) qb (fun zz=>nofun)
   exact PyProof.Rows.is_bool (k _ _ ⟨Ext.refl _ _,rfl⟩)
 |str z=>
  cases eR _ ha qa (fun zz=>nofun)
  exact oif h fun c h=>aQ h fun Q E k=>by
   cases wL c qb
   exact is_none (k _ _ ⟨Ext.refl _ _,rfl⟩)
 |_=>exact no h
theorem aDh {r:Bool}(h:isP a.pv b.pv=some r)(hn:(asB a.pv).isSome=false)(qa:aV T.C X s.heap a x)(qb:aV T.C X s.heap b y):Tr (model T.prog T.w) A (compareOp .IsNot x y) s (VR s (Value.bool !r)):=by
 generalize ha:a.pv=pa at h hn
 cases pa with
 |none=>
  cases eR _ ha qa (fun zz=>nofun)
  exact oif h fun c h=>aQ h fun Q E k=>by
   cases wL c qb
   exact isNot_none (k _ _ ⟨Ext.refl _ _,rfl⟩)
 |str z=>
  cases eR _ ha qa (fun zz=>nofun)
  exact oif h fun c h=>aQ h fun Q E k=>by
   cases wL c qb
   exact isNot_none (k _ _ ⟨Ext.refl _ _,rfl⟩)
 |bool c=>cases hn
 |_=>exact no h
theorem wM {op:CmpOp}{f:Int→Int→Bool}{r:Bool}(h:ltP f a.pv b.pv=some r)(qa:aV T.C X s.heap a x)(qb:aV T.C X s.heap b y)
  (hf:∀i j t u Q E,Q (.bool (f i j)) s→wpAny (model T.prog T.w) A (compareOp op (.int i t) (.int j u)) Q E s):Tr (model T.prog T.w) A (compareOp op x y) s (VR s (Value.bool r)):=
 aB h fun i hi h=>aO h fun j hj Q E k=>by
  cases cL hi qa
  cases cL hj qb
  exact hf i j _ _ Q E (k _ _ ⟨Ext.refl _ _,rfl⟩)
end
theorem RB {T:Th}(hP:∀A,T.P A→A.units+65<cLine):fW T:=fun op a b r A X s x y pa h qa qb=>by
 have hu:=hP A pa
 have hu':A.units+64<cLine:=Nat.lt_of_succ_lt hu
 cases op with
 |Eq=>exact fun Q E k=>QZ h qa qb fun as bs ra rb sa sb e=>eq_dataH ra rb sa sb hu' (k _ _ ⟨Ext.refl _ _,congrArg Value.bool e⟩)
 |NotEq=>exact aO h fun r h Q E k=>QZ h qa qb fun as bs ra rb sa sb e=>ne_dataH ra rb sa sb hu' (k _ _ ⟨Ext.refl _ _,congrArg (fun t=>Value.bool !t) e⟩)
 |In=>exact aB h fun xs hx h Q E k=>RA hx h qa qb hu fun as bs ra rb ca cb u e=>SeqAt.in_list_reads ra rb ca cb u (k _ _ ⟨Ext.refl _ _,congrArg Value.bool e⟩)
 |NotIn=>exact aB h fun xs hx h=>aO h fun r h Q E k=>RA hx h qa qb hu fun as bs ra rb ca cb u e=>SeqAt.notIn_list_reads ra rb ca cb u (k _ _ ⟨Ext.refl _ _,congrArg (fun t=>Value.bool !t) e⟩)
 |Is=>exact aDg h qa qb
 |IsNot=>exact dI h fun c h=>aO h fun r h=>aDh h c qa qb
 |Lt=>exact wM h qa qb fun i j t u Q E=>PySem.P.lt_int
 |LtE=>exact wM h qa qb fun i j t u Q E=>PySem.P.le_int
 |Gt=>exact wM h qa qb fun i j t u Q E=>PySem.P.gt_int
 |GtE=>exact wM h qa qb fun i j t u Q E=>PySem.P.ge_int
structure Bud (A:Around):Prop where
 handled:A.handled=none
 guards:A.guards=some []
 units:A.units+100<cLine
noncomputable def fnV (f:Nm):Value:=
 bif aC f vA then .builtin "len" else bif aC f sV then .builtin "max" else bif aC f vC then .builtin "sum" else bif aC f sX then .builtin "ord"
 else bif aC f vE then .builtin "chr" else bif aC f sW then .builtin "sorted" else bif aC f vF then .builtin "repr" else bif aC f vH then .builtin "hex"
 else bif aC f vI then .type "tuple" else .type "bytes"
noncomputable def iH (M:Model)(A:Around)(f:Value)(s:Shared):Prop:=∀(Q:Keeper→Shared→Prop) (E:Value→Shared→Prop),(∀k,Q k s)→wpAny M A (keeperOf f) Q E s
noncomputable abbrev BX (C:Cx):Addr→Prop:=fun a=>C.hb.get? a=none
theorem Rep.fromBase {C:Cx}{X:Addr→Prop}{h:Heap}{d:PV}{v:Value}(r:Rep C (BX C) C.hb d v)(k:aG NoX C.hb h)(n:∀a,X a→C.hb.get? a=none):Rep C X h d v:=
 Rep.keep ⟨k.any,fun a zz zz nb x=>nb (n a x)⟩ d r
structure At (T:Th)(A:Around)(X:Addr→Prop)(s:Shared):Prop where
 pa:T.P A
 base:aG NoX T.C.hb s.heap
 newB:∀a,X a→T.C.hb.get? a=none
 bnd:∀a,X a→∃o,s.heap.get? a=some o
theorem bE.at {T:Th}{G:Gl}{σ:Sg}{A:Around}{X:Addr→Prop}{env:Env}{s:Shared}(c:bE T G σ A X env s):At T A X s:=⟨c.pa,c.e.base,c.e.newB,c.e.bnd⟩
inductive GV (C:Cx)(x:Nm)(v:Value):Prop
 |g (h:C.gm (mkS x)=some v)
 |b (n:C.gm (mkS x)=none) (h:C.bm (mkS x)=some v)
inductive dQ (C:Cx)(x:Nm)(R:Value→Prop):Prop
 |mk {v:Value} (g:GV C x v) (r:R v)
structure wN (T:Th)(args:List PV)(d:PV)(vf:Value):Prop where
 keep:∀A s,aG NoX T.C.hb s.heap→iH (model T.prog T.w) A vf s
 run:∀A X s vs,At T A X s→Reps T.C X s.heap args vs→Tr (model T.prog T.w) A (PySem.call vf vs) s (ER T.C X s (.v d))
structure RC (T:Th)(m:Nm)(args:List PV)(d:PV)(f:Addr):Prop where
 fn:wN T args d (.ref f)
 get:∀A X s x mA pl Q E,At T A X s→s.heap.Inst x T.C.cls mA→mA (mkS m)=none→Q (.ref f,[.ref x]) s→wpAny (model T.prog T.w) A (getMethod (.ref x) (mkS m) pl) Q E s
structure IR (C:Cx)(X:Addr→Prop)(a:Addr)(d:PV)(l:List PV)(s:Shared)(v:Value)(s':Shared):Prop where
 x:Ext (fun b=>b=a) s s'
 r:Rep C X s'.heap d v
 sl:bU C X s'.heap (.iter none l) (.ref a)
structure CF (T:Th)(xs:List PV)(d:PV)(r:List PV)(vf:Value):Prop where
 keep:∀A s,aG NoX T.C.hb s.heap→iH (model T.prog T.w) A vf s
 run:∀A X s a,At T A X s→bU T.C X s.heap (.iter none xs) (.ref a)→Tr (model T.prog T.w) A (PySem.call vf [.ref a]) s (IR T.C X a d r s)
structure RD (C:Cx)(x:Addr)(a:Nm)(v:Value)(mA:PySem.Str→Option Value)(s s':Shared):Prop where
 os:s'.os=s.os
 gens:s'.gens=s.gens
 inst:s'.heap.Inst x C.cls fun y=>if y=mkS a then some v else mA y
 keep:∀b o,b≠x→(∀o₀ dx,s.heap.get? x=some o₀→o₀.dict=some dx→b≠dx)→s.heap.get? b=some o→s'.heap.get? b=some o
 self:∀o₀,s.heap.get? x=some o₀→∃o₁,s'.heap.get? x=some o₁∧o₁.cls=o₀.cls∧o₁.data=o₀.data∧o₁.slots=o₀.slots∧∀dx,o₀.dict=some dx→o₁.dict=some dx
structure RE (T:Th)(k:PV)(r:Option PV)(a:Addr):Prop where
 obj:∃ob,T.C.hb.get? a=some ob∧ob.cls=.type "dict" ∧ ob.dict=none
 one:∀A X s kv,At T A X s→Rep T.C X s.heap k kv→Tr (model T.prog T.w) A (call (.builtin "dict.get") [.ref a,kv]) s (ER T.C X s (.v (r.getD .none)))
 two:∀A X s kv d dv,At T A X s→Rep T.C X s.heap k kv→Rep T.C X s.heap d dv→Tr (model T.prog T.w) A (call (.builtin "dict.get") [.ref a,kv,dv]) s (ER T.C X s (.v (r.getD d)))
noncomputable def CG (T:Th)(A:Around)(o i:Value)(s:Shared)(R:Value→Shared→Prop):Prop:=∀Q E,(∀v s',R v s'→Q v s')→SubscriptOn (model T.prog T.w) A o i Q E s
structure aY (T:Th)(G:Gl):Prop where
 gns:T.C.hb.Ns T.C.gl T.C.gm
 bns:T.C.hb.Ns T.C.bi T.C.bm
 const:∀x d,G.const x=some d→dQ T.C x (Rep T.C (BX T.C) T.C.hb d)
 tab:∀t d x,G.table t d=some (some x)→dQ T.C t fun vt=>∀A X s dv,At T A X s→Rep T.C X s.heap d dv→CG T A vt dv s (ER T.C X s (.v x))
 inSet:∀t d b,G.inSet t d=some b→dQ T.C t fun vt=>∀A X s dv,At T A X s→Rep T.C X s.heap d dv→Tr (model T.prog T.w) A (compareOp .In dv vt) s (VR s (Value.bool b))
 cattr:∀c a d,G.cattr c a=some d→dQ T.C c fun vc=>∀A X s,At T A X s→Tr (model T.prog T.w) A (getAttr vc (mkS a) true) s (ER T.C X s (.v d))
 fld:∀a,G.fld a=true→∀A X s x mA v,At T A X s→s.heap.Inst x T.C.cls mA→mA (mkS a)=some v→handedOut v=pure v→Tr (model T.prog T.w) A (getAttr (.ref x) (mkS a) true) s (VR s v)
 sto:∀a,G.fld a=true→∀A X s x mA ns v,At T A X s→T.C.hb.get? x=none→s.heap.Inst x T.C.cls mA→Within mA ns→ns.length≤1000→Tr (model T.prog T.w) A (setAttr (.ref x) (mkS a) v) s fun zz s'=>RD T.C x a v mA s s'
 tget:∀t k r,G.table t k=some r→dQ T.C t fun vt=>∃a,vt=.ref a∧RE T k r a
 bud:∀A,T.P A→Bud A
 bname:∀f,vS f=true→GV T.C f (fnV f)
 bval:∀p∈[(fG,Value.type "range"),(fH,.type "list"),(iV,.type "zip"),(pR,.builtin "iter"),(pS,.builtin "next")],GV T.C p.1 p.2
 icall:∀f xs d r,G.icall f xs=some (d,r)→dQ T.C f (CF T xs d r)
 call:∀f args d,G.call f args=some d→dQ T.C f (wN T args d)
 meth:∀m args d,G.meth m args=some d→∃f:Addr,RC T m args d f
section
variable {T:Th}{G:Gl}{σ:Sg}{A:Around}{X:Addr→Prop}{env:Env}{s:Shared}{E:Value→Shared→Prop}{Q:Value→Shared→Prop}
theorem gname (hG:aY T G){x:Nm}{p:Pos}{v:Value}(hg:cC G.sc x=true)(hv:GV T.C x v)(c:bE T G σ A X env s)(h:Q v s):wpAny (model T.prog T.w) A (eval (.Name (mkS x) p) env) Q E s:=
 aP hg fun h1 h2=>by
  have gn:s.heap.Ns env.globals T.C.gm:=c.e.glo▸Ns.keepX hG.gns c.e.base id
  refine PySem.Calls.Name_function_global c.e.fn (c.e.kinds x _ (dec h1)) ?_ (jC (dZ h2))
  cases hv with
  |g hv=>exact PySem.Calls.loadGlobal_global gn hv h
  |b n hv=>exact PySem.Calls.loadGlobal_builtin gn n (c.e.bui▸Ns.keepX hG.bns c.e.base id) hv h
theorem aDi (hG:aY T G){x:Nm}{p:Pos}:aF T G (.gname x p):=fun σ d h=>oif h fun hg h=>aO h fun d hd A X env s c Q E k=>by
 cases hG.const _ _ hd with |mk g r=>exact gname hG hg g c (k _ _ ⟨Ext.refl _ _,Rep.fromBase r c.e.base c.e.newB⟩)
theorem RepF.get {C:Cx}{h:Heap}{x:Nm}:∀{fs:List (Nm × PV)} {m:PySem.Str→Option Value} {d:PV},RepF C X h fs m→aD x fs=some d→∃v,m (mkS x)=some v∧Rep C X h d v
 |[],_,_,_,q=>no q
 |(y,d')::fs,m,d,r,q=>by
  cases r with |mk a b e=>
  rw [e]
  by_cases k:mkS x=mkS y
  ·rw [if_pos k]
   cases qF k
   rw [show aD x ((x,d')::fs)=some d' by show (bif aC x x then some d' else _)=_; rw [fV]; rfl] at q
   exact ⟨_,rfl,Option.some.inj q▸a⟩
  ·rw [if_neg k]
   rw [show aD x ((y,d')::fs)=aD x fs by show (bif aC y x then some d' else _)=_; rw [nL fun e=>k (congrArg mkS e.symm)]; rfl] at q
   exact RepF.get b q
theorem aDj {C:Cx}{h:Heap}{sl:Slot}{fs:List (List Nat × PV)}{v:Value}(e:BH sl=some fs)(r:bU C X h sl v):IV C (fun zz=>True) h (RepF C X h fs) v:=by
 have up:∀{N:Addr→Prop} {fs'},BH sl=some fs→IV C N h (RepF C X h fs') v→fs'=fs→IV C (fun zz=>True) h (RepF C X h fs) v:=fun zz r e=>e▸IV.map r (fun a o zz e=>⟨trivial,e⟩) fun zz q=>q
 cases sl with
 |fz d=>cases d <;> first |exact no e |exact up e r (Option.some.inj e)
 |own xs=>exact no e
 |iter t xs=>exact no e
 |self fs'=>exact up e r.2 (Option.some.inj e)
 |own2 t=>exact no e
theorem aDk {C:Cx}{h:Heap}{d:PV}{v:Value}(r:Rep C X h d v):handedOut v=pure v:=by
 cases d <;> cases r <;> rfl
theorem aDl (hG:aY T G){o a:Nm}{op p:Pos}:aF T G (.attr o op a p):=fun σ d h=>dI h fun hd h=>aB h fun sl hl h=>aB h fun fs hf h=>oif h fun ha h=>aO h fun d hx A X env s c Q E k=>by
 obtain ⟨v,n,r⟩:=c.e.slot hl
 refine Attribute_name (wpAny_Name (iE c.e.fn n ?_) (jC hd))
 cases aDj hf r with |mk _ _ ne g oc od on nd rf=>
 obtain ⟨v',h2,h3⟩:=RepF.get rf hx
 exact hG.fld a ha A X s _ _ v' c.at ⟨_,g,oc,on,.inr ⟨_,od,ne,nd⟩⟩ h2 (aDk h3) _ E fun v s' q=>k _ _ ⟨q.x,q.e▸Rep.keep (.nox q.x.keep) d h3⟩
theorem aDm (hG:aY T G){o a:Nm}{op p:Pos}:aF T G (.cattr o op a p):=fun σ d h=>oif h fun hg h=>aO h fun d hx A X env s c Q E k=>by
 cases hG.cattr _ _ _ hx with |mk g r=>exact Attribute_name (gname hG hg g c (r A X s c.at _ E k))
end
inductive AtI {α:Type}(xs:List α)(i:Int)(x:α):Prop
 |pos (z:i.natAbs≤16777216) (h:0≤i) (e:xs[i.toNat]?=some x)
 |neg (z:i.natAbs≤16777216) (h:i<0) (l:0≤i+xs.length) (e:xs[(i+xs.length).toNat]?=some x)
theorem jR {α:Type}{xs:List α}{i:Int}{x:α}(h:atI xs i=some x):AtI xs i x:=dI h fun z h=>by
 have z:i.natAbs≤16777216:=Decidable.byContradiction fun q=>Bool.false_ne_true (z.symm.trans (by rw [decide_eq_false q]; rfl))
 by_cases h0:0≤i
 ·rw [decide_eq_true h0] at h
  exact .pos z h0 h
 ·rw [decide_eq_false h0] at h
  exact oif h fun h1 h=>.neg z (Int.not_le.mp h0) (dec h1) h
section
variable {prog:Program}{w:World}{A:Around}{E:Value→Shared→Prop}{s:Shared}{env:Env}{C:Cx}{X:Addr→Prop}
theorem AtI.rep {h:Heap}{xs:List PV}{its:List Value}(r:Reps C X h xs its){i:Int}{d:PV}(q:AtI xs i d):∃v,AtI its i v∧Rep C X h d v:=by
 cases q with
 |pos z h e=>exact (r.get _ _ e).elim fun v hv=>⟨v,.pos z h hv.1,hv.2⟩
 |neg z h l e=>
  rw [r.length] at l e
  exact (r.get _ _ e).elim fun v hv=>⟨v,.neg z h l hv.1,hv.2⟩
theorem lX {value slice:Expr}{pos:Pos}{Q:Value→Shared→Prop}
  (h:wpAny (model prog w) A (eval value env) (fun o s₁=>wpAny (model prog w) A (eval slice env) (fun i s₂=>SubscriptOn (model prog w) A o i Q E s₂) E s₁) E s) :
  wpAny (model prog w) A (eval (.Subscript value slice pos) env) Q E s:=by
 rw [eval_Subscript]
 refine wpAny_bind (wpAny_mono h (fun o s₁ h₁=>wpAny_bind (wpAny_holding (wpAny_mono h₁ (fun i s₂ h₂=>wpAny_bind (wpAny_standAt ?_)) fun zz zz x=>x))) fun zz zz x=>x)
 obtain ⟨T,id,hl,hT,hg⟩:=h₂
 have fin:∀vs,wpAny (model prog w) A (operate vs (getItem o i)) (fun r s₃=>wpAny (model prog w) A (letTemporaryGo value o r>>=fun zz=>pure r) Q E s₃) E s₂:=fun vs=>
  wpAny_operating (wpAny_mono hg (fun r s₃ h₃=>wpAny_bind (wpAny_letTemporaryGo (wpAny_pure h₃))) fun zz zz x=>x)
 have key:wpAny (model prog w) A (subscripted slice false o i) (fun r s₃=>wpAny (model prog w) A (letTemporaryGo value o r>>=fun zz=>pure r) Q E s₃) E s₂:=by
  cases slice with
  |Slice lo hi st p=>cases st <;> exact fin _
  |_=>exact fin _
 refine wpAny_bind ?_
 rw [getitemInPython_of_ne hT.not_modules]
 exact wpAny_bind (wpAny_specialOf hT hl (wpAny_pure (wpAny_bind key)))
theorem qL {i:Int}(z:i.natAbs≤16777216):i<2 ^ 63∧-(2 ^ 63)≤i:=by omega
theorem wO {i:Int}{n:Nat}(h:0≤i+n):-(n:Int)≤i:=by omega
theorem qM {a:Addr}{its:List Value}{n:Nat}{i:Int}{t:Tok}{v:Value}{Q:Value→Shared→Prop}(hg:s.heap.get? a=some (aS its n))(q:AtI its i v)(h:Q v s):SubscriptOn (model prog w) A (.ref a) (.int i t) Q E s:=by
 refine ⟨"list",_,F.slot_list_getitem.lookup,⟨_,hg,rfl⟩,?_⟩
 cases q with
 |pos z h0 e=>exact wpAny_getItem_list ⟨_,hg,rfl,n,rfl⟩ h0 (qL z).1 ((List.getElem?_toArray).trans e) h
 |neg z h0 l e=>exact wpAny_getItem_list_neg ⟨_,hg,rfl,n,rfl⟩ h0 (wO l) (qL z).2 ((List.getElem?_toArray).trans e) h
theorem CH {α:Type}{xs:List α}{i:Int}{x:α}(h0:0≤i)(e:xs[i.toNat]?=some x):seqIndex? i xs.length=some i.toNat:=by
 have:=(List.getElem?_eq_some_iff.mp e).1
 exact seqIndex_of h0 (by omega)
theorem AtI.ix {α:Type}{xs:List α}{i:Int}{x:α}(q:AtI xs i x):∃j,seqIndex? i xs.length=some j∧xs[j]?=some x∧i<2 ^ 63∧-(2 ^ 63)≤i:=by
 cases q with
 |pos z h0 e=>exact ⟨_,CH h0 e,e,qL z⟩
 |neg z h0 l e=>exact ⟨_,seqIndex_neg h0 (wO l),e,qL z⟩
theorem aDn {a:Addr}{its:List Value}{n:Nat}{i:Int}{t:Tok}{v:Value}{Q:Value→Shared→Prop}(hg:s.heap.get? a=some (aW its n))(q:AtI its i v)(h:Q v s):SubscriptOn (model prog w) A (.ref a) (.int i t) Q E s:=by
 obtain ⟨j,h1,h2,h3,h4⟩:=q.ix
 exact ⟨"tuple",_,F.slot_tuple_getitem.lookup,⟨_,hg,rfl⟩,PySem.P.getItem_tuple (n:=n) (items:=its.toArray) (k:=j) hg h4 h3 h1 ((List.getElem?_toArray).trans h2) h⟩
theorem aDo {x:List Nat}{i:Int}{t u:Tok}{c:Nat}{Q:Value→Shared→Prop}(q:AtI x i c)(h:∀v s',ER C X s (.v (.str [c])) v s'→Q v s'):SubscriptOn (model prog w) A (iC x u) (.int i t) Q E s:=by
 obtain ⟨j,h1,h2,h3,h4⟩:=q.ix
 refine ⟨"str",_,F.slot_str_getitem.lookup,(by rfl),PySem.P.getItem_str (c:=c) ?_ ?_ (h _ _ ⟨Ext.tok _ _ _,.mk _⟩)⟩
 ·rw [decide_eq_false (Int.not_lt.mpr h4),decide_eq_false (Int.not_le.mpr h3)]; rfl
 ·show (seqIndex? i x.length).bind (x.toArray[·]?)=some c
  rw [h1]
  exact (List.getElem?_toArray).trans h2
end
section
variable {T:Th}{G:Gl}{σ:Sg}{A:Around}{X:Addr→Prop}{env:Env}{s:Shared}
theorem aDp {x d:EV}{i:Int}{v u:Value}(h:PW x i=some d)(hx:aV T.C X s.heap x v)(hu:dY i u):CG T A v u s (ER T.C X s d):=by
 cases hu with |mk t=>
 have h:atD x.pv i=some d:=h
 generalize hp:x.pv=p at h
 cases p with
 |str z=>
  cases eR _ hp hx (fun zz=>nofun) with |mk u=>
  exact aO h fun c hc Q E k=>aDo (jR hc) k
 |list z=>
  exact aO h fun c hc Q E k=>by
   cases dJ (xs:=z) (congrArg asL hp) hx with |mk _ g r=>
   exact (jR hc).rep r |>.elim fun v hv=>qM g hv.1 (k _ _ ⟨Ext.refl _ _,hv.2⟩)
 |tuple z=>
  exact aO h fun c hc Q E k=>by
   cases eR _ hp hx (fun zz=>nofun) with |mk _ g r=>
   exact (jR hc).rep r |>.elim fun v hv=>aDn g hv.1 (k _ _ ⟨Ext.refl _ _,hv.2⟩)
 |_=>exact no h
theorem CI {o i:E}{p:Pos}(ho:aF T G o)(hi:aF T G i):aF T G (.sub o i p):=fun σ d h=>aB h fun x hx h=>aB h fun j hj h=>aB hj fun y hy hj A X env s c Q E k=>
 lX (ho σ x hx A X env s c _ E fun v s₁ q=>hi σ _ (bR hy) A X env s₁ (c.er q) _ E fun u s₂ q2=>aDp h (q.on q2) (cL (d:=.v y) hj q2.r) Q E fun v s₃ q3=>k v s₃ ((q.to q2).to q3))
theorem aDq (hG:aY T G){x:Nm}{xp:Pos}{i:E}{p:Pos}(hi:aF T G i):aF T G (.tab x xp i p):=fun σ d h=>oif h fun hg h=>aB h fun y hy h=>aB h fun r hr h=>aO h fun z hz A X env s c Q E k=>by
 cases hz
 cases hG.tab _ _ _ hr with |mk g t=>
 exact lX (gname hG hg g c (hi σ _ (bR hy) A X env s c _ E fun u s₁ q=>t A X s₁ u (c.er q).at q.r Q E fun v s₂ q2=>k v s₂ (q.to q2)))
structure PR (s:Shared)(r:Option Int)(v:Value)(s':Shared):Prop where
 x:Ext NoX s s'
 p:IsPart v r
theorem qN {o:Option E}(ho:∀e,o=some e→aF T G e){r:Option Int}(h:evO G o σ=some r)(c:bE T G σ A X env s):Tr (model T.prog T.w) A (evalPart (ob o) env) s (PR s r):=by
 cases o with
 |none=>
  exact aQ h fun Q E k=>by
   rw [show ob none=none from rfl,evalPart_none]
   exact wpAny_pure (k _ _ ⟨Ext.refl _ _,.none⟩)
 |some e=>
  exact aO h fun i hi=>aB hi fun y hy hi Q E k=>by
   rw [show ob (some e)=some e.b from rfl,evalPart_some]
   exact ho e rfl σ _ (bR hy) A X env s c _ E fun v s₁ q=>by
    cases cL (d:=.v y) hi q.r
    exact k _ _ ⟨q.x,.int _ _⟩
theorem Reps.pick {C:Cx}{h:Heap}{xs:List PV}{its:List Value}(r:Reps C X h xs its):∀idx:List Nat,Reps C X h (idx.filterMap (xs[·]?)) (idx.filterMap (its[·]?))
 |[]=>rfl
 |i::idx=>by
  cases hx:xs[i]? with
  |none=>
   have hn:its[i]?=none:=List.getElem?_eq_none_iff.mpr (r.length▸List.getElem?_eq_none_iff.mp hx)
   rw [List.filterMap_cons_none hx,List.filterMap_cons_none hn]
   exact Reps.pick r idx
  |some d=>
   obtain ⟨v,hv,q⟩:=r.get i d hx
   rw [List.filterMap_cons_some hx,List.filterMap_cons_some hv]
   exact ⟨q,Reps.pick r idx⟩
theorem aDr {xs:List PV}{its:List Value}(e:xs.length=its.length)(a b c:Option Int):slicePick its.toArray a b c=((sliceRange (sliceBounds a b c xs.length).1 (sliceBounds a b c xs.length).2.1 (sliceBounds a b c xs.length).2.2).filterMap (its[·]?)).toArray:=by
 unfold slicePick
 rw [e]
 simp only [List.getElem?_toArray,List.size_toArray]
theorem aDs {o:E}{lo hi st:Option E}{sp p:Pos}(ho:aF T G o)(hlo:∀e,lo=some e→aF T G e)(hhi:∀e,hi=some e→aF T G e)(hst:∀e,st=some e→aF T G e):∀σ d,QB (ev G o σ) (evO G lo σ) (evO G hi σ) (evO G st σ)=some d→qI T G (.slice o lo hi st sp p) σ d:=
 fun σ d h=>aB h fun x hx h=>aB h fun xs hxs h=>aB h fun a ha h=>aB h fun b hb h=>aB h fun c hc h=>oif h fun hz h=>aB h fun l hl h=>oif h fun hz' h=>aQ h <| dI hl fun h0 hl=>aQ hl fun A X env s cx Q E k=>
 lX (ho σ x hx A X env s cx _ E fun vo s₁ q=>wpAny_Slice (qN hlo ha (cx.er q) _ E fun v1 s₂ q1=>qN hhi hb ((cx.er q).ext q1.x) _ E fun v2 s₃ q2=>qN hst hc (((cx.er q).ext q1.x).ext q2.x) _ E fun v3 s₄ q3=>by
  have X3:=(q1.x.trans q2.x).trans q3.x
  have X4:=X3.trans (Ext.pushed NoX s₄ {cls:=.type "slice",data:=.fields #[v1,v2,v3]})
  cases dJ hxs (q.r.keep X4.keep) with | @mk la its n _ g r=>
  refine ⟨"list",_,F.slot_list_getitem.lookup,⟨_,g,rfl⟩,?_⟩
  refine wpAny_getItem_list_slice (hl:=⟨_,g,rfl,_,rfl⟩) (Heap.IsSliceOf.new _ _ _ _) q1.p q2.p q3.p (of_decide_eq_false h0) ?_ ?_
  ·have hk:=BZ ((cx.er q).ext X4).e.newX (r.pick (sliceRange (sliceBounds a b c xs.length).1 (sliceBounds a b c xs.length).2.1 (sliceBounds a b c xs.length).2.2))
   rw [aDr r.length]
   exact k _ _ (.pre (q.x.trans X4) hk)
  ·exact nM hz r))
theorem aDt {t sl:Addr}{u1 u2:Value}{n:Nat}{k:Tok}{Q:Value→Shared→Prop}{E:Value→Shared→Prop}(g:s.heap.get? t=some (aW [u1,u2] n))(hs:s.heap.IsSliceOf sl .none .none (.int (-1) k))
  (h:Q (.ref s.heap.objs.size) {s with heap:=s.heap.push (aW [u2,u1] 0)}):wpAny (model T.prog T.w) A (getItem (.ref t) (.ref sl)) Q E s:=by
 have ht:IsTup s.heap t #[u1,u2]:=⟨_,g,rfl,n,rfl⟩
 obtain ⟨os,hos,hcs,hds⟩:=id hs
 have hTs:s.TypeIs (.ref sl) "slice" := ⟨os,hos,hcs⟩
 unfold getItem
 try with_reducible refine wpAny_holding ?_
 first |refine wpAny_bind (wpAny_pure ?_) |skip
 refine wpAny_bind (wpAny_sequenceKey ht.typeIs (by decide) ?_)
 refine wpAny_bind (wpAny_callSpecial?_slot (name:=Str.ofString "__getitem__") ht.typeIs slot_tuple_getitem
  (wpAny_call_entry slot_tuple_getitem ht.typeIs entry_tuple_getitem ?_ (args_tuple_getitem _ _)))
 show wpAny _ _ (Builtin.Tuple.tupleItemsOf (.ref t)>>=_) _ _ s
 refine wpAny_bind (tupleItemsOf_ ht ?_)
 refine wpAny_bind (wpAny_typeOf hTs ?_)
 rw [if_pos (by decide)]
 refine wpAny_bind ?_
 unfold Builtin.Slice.sliceApplied Builtin.Slice.sliceFields
 refine wpAny_bind (wpAny_bind (wpAny_field hos hds (x:=.none) rfl (wpAny_bind (wpAny_field hos hds (x:=.none) rfl (wpAny_bind (wpAny_field hos hds (x:=.int (-1) k) rfl (wpAny_pure ?_)))))))
 refine wpAny_bind (slicePart_int ?_)
 show wpAny _ _ (if ((-1:Int)==0)=true then _ else _) _ _ s
 rw [if_neg (by decide)]
 refine wpAny_bind (slicePart_none (wpAny_bind (slicePart_none (wpAny_bind (wpAny_pure ?_)))))
 rw [show Builtin.Slice.sliceAdjust none none ((some (-1)).getD 1) ((#[u1,u2]:Array Value).size:Nat)=((1:Int),(-1:Int)) by rfl]
 refine wpAny_pure ?_
 show wpAny _ _ (Builtin.Tuple.tupleExact #[u2,u1]>>=_) _ _ s
 exact wpAny_bind (m:=Builtin.Tuple.tupleExact _) (wpAny_newObj_type (wpAny_pure ⟨_,rfl,wpAny_pure h⟩) (by show 2≤_; decide))
theorem aDu {d:PV}{q:PV × PV}(h:vM d=some q):d=.tuple [q.1,q.2]:=by
 cases d with
 |tuple l=>cases l with
  |nil=>cases h
  |cons a l=>cases l with
   |nil=>cases h
   |cons b l=>cases l with
    |nil=>cases h; rfl
    |cons c l=>cases h
 |_=>cases h
theorem aDv {o:E}{lo hi st:Option E}{sp p:Pos}(ho:aF T G o)(hlo:∀e,lo=some e→aF T G e)(hhi:∀e,hi=some e→aF T G e)(hst:∀e,st=some e→aF T G e):∀σ d,QC (ev G o σ) (evO G lo σ) (evO G hi σ) (evO G st σ)=some d→qI T G (.slice o lo hi st sp p) σ d:=
 fun σ d h=>aB h fun x hx h=>aB h fun q hq h=>aB h fun a ha h=>aB h fun b hb h=>aB h fun c hc h=>oif h fun hz h=>aP hz fun hz h3=>aP hz fun h1 h2=>aQ h fun A X env s cx Q E k=>
 lX (ho σ x hx A X env s cx _ E fun vo s₁ q0=>wpAny_Slice (qN hlo ha (cx.er q0) _ E fun v1 s₂ q1=>qN hhi hb ((cx.er q0).ext q1.x) _ E fun v2 s₃ q2=>qN hst hc (((cx.er q0).ext q1.x).ext q2.x) _ E fun v3 s₄ q3=>by
  have X3:=(q1.x.trans q2.x).trans q3.x
  have X4:=X3.trans (Ext.pushed NoX s₄ {cls:=.type "slice",data:=.fields #[v1,v2,v3]})
  have r:=eR _ (aDu hq) (q0.r.keep X4.keep) fun zz=>nofun
  cases dec h1
  cases dec h2
  cases dec h3
  have p1:=q1.p
  have p2:=q2.p
  have p3:=q3.p
  cases p1
  cases p2
  cases p3
  cases r with | @mk la its n _ g r=>
  cases r with | @mk u1 _ r1 r=>cases r with | @mk u2 _ r2 r=>
  cases r
  refine ⟨"tuple",_,F.slot_tuple_getitem.lookup,⟨_,g,rfl⟩,?_⟩
  refine aDt g (Heap.IsSliceOf.new _ _ _ _) ?_
  exact k _ _ (.pre (q0.x.trans X4) (QS (xs:=[q.2,q.1]) ((cx.er q0).ext X4).e.newX ⟨r2,r1,rfl⟩))))
theorem aDw {o:E}{lo hi st:Option E}{sp p:Pos}(ho:aF T G o)(hlo:∀e,lo=some e→aF T G e)(hhi:∀e,hi=some e→aF T G e)(hst:∀e,st=some e→aF T G e):aF T G (.slice o lo hi st sp p):=fun σ d h=>by
 have h:vV (ev G o σ) (evO G lo σ) (evO G hi σ) (evO G st σ)=some d:=h
 unfold vV at h
 cases hq:(ev G o σ).bind fun x=>vM x.pv with
 |none=>rw [hq] at h; exact aDs ho hlo hhi hst σ d h
 |some q=>rw [hq] at h; exact aDv ho hlo hhi hst σ d h
theorem cP.len {C:Cx}{h:Heap}:∀{t:List (List Int)} {its:List Value},cP C X h t its→t.length=its.length
 |[],_,r=>(congrArg List.length r).symm
 |_::t,_,r=>by cases r with |mk p q=>exact congrArg (·+1) (cP.len q)
theorem cP.get {C:Cx}{h:Heap}:∀{t:List (List Int)} {its:List Value},cP C X h t its→∀(i:Nat) (r:List Int),t[i]?=some r→∃v,its[i]?=some v∧LV X h aS (Reps C X h (r.map .int)) v
 |[],_,_,i,r,e=>nomatch e
 |_::_,_,z,0,r,e=>by cases z with |mk p q=>exact ⟨_,rfl,Option.some.inj e▸p⟩
 |_::t,_,z,i+1,r,e=>by cases z with |mk p q=>exact cP.get q i r e
theorem AtI.row {C:Cx}{h:Heap}{t:List (List Int)}{its:List Value}(r:cP C X h t its){i:Int}{d:List Int}(q:AtI t i d):∃v,AtI its i v∧LV X h aS (Reps C X h (d.map .int)) v:=by
 cases q with
 |pos z h e=>exact (r.get _ _ e).elim fun v hv=>⟨v,.pos z h hv.1,hv.2⟩
 |neg z h l e=>
  rw [r.len] at l e
  exact (r.get _ _ e).elim fun v hv=>⟨v,.neg z h l hv.1,hv.2⟩
theorem AtI.map {α β:Type}(f:α→β){xs:List α}{i:Int}{x:α}(q:AtI xs i x):AtI (xs.map f) i (f x):=by
 cases q with
 |pos z h e=>exact .pos z h (by rw [List.getElem?_map,e]; rfl)
 |neg z h l e=>exact .neg z h (by rw [List.length_map]; exact l) (by rw [List.length_map,List.getElem?_map,e]; rfl)
theorem wP {x:Nm}{t:List (List Int)}(h:tB x σ=some t):aD x σ=some (.own2 t):=aB h fun sl hx h=>by
 cases sl with
 |own2 u=>exact Option.some.inj h▸hx
 |_=>exact no h
theorem aDx {x:Nm}{t:List (List Int)}{i j d:Int}(h:at2 t i j=some d)(c:bE T G σ A X env s)(hx:aD x σ=some (.own2 t)):
  ∃a its n,bJ env s.heap (mkS x) (.ref a)∧s.heap.get? a=some (aS its n)∧∃b its' n',AtI its i (.ref b)∧s.heap.get? b=some (aS its' n')∧∃v,AtI its' j v∧dY d v:=aB h fun r hr h=>by
 obtain ⟨v,n,o⟩:=c.e.slot hx
 have o:tG T.C X s.heap t v:=o
 cases o with |mk xa g q nd na=>
 obtain ⟨u,h1,h2⟩:=(jR hr).row q
 cases h2 with |mk xb gb rb=>
 obtain ⟨z,h3,h4⟩:=((jR h).map PV.int).rep rb
 exact ⟨_,_,_,n,g,_,_,_,h1,gb,z,h3,h4⟩
theorem aDy {x:Nm}{xp ip p:Pos}{i j:E}(hi:aF T G i)(hj:aF T G j):aF T G (.sub2 x xp i ip j p):=fun σ d h=>by
 have h:BK x σ (ev G i σ) (ev G j σ)=some d:=h
 unfold BK at h
 cases ho:tB x σ with
 |none=>rw [ho] at h; exact CI (p:=p) (CI (p:=ip) (QM (x:=x) (p:=xp)) hi) hj σ d h
 |some t=>
  rw [ho] at h
  refine dI h fun hd h=>aB h fun iv hiv h=>aB h fun jv hjv h=>aO h fun z hz=>?_
  refine aB hiv fun di hi1 hi2=>aB hjv fun dj hj1 hj2 A X env s c Q E k=>?_
  obtain ⟨a,its,n,nm,g,b,its',n',h1,gb,v,h2,h3⟩:=aDx hz c (wP ho)
  refine lX (lX (wpAny_Name (iE c.e.fn nm (hi σ _ (bR hi1) A X env s c _ E fun u s₁ q1=>?_)) (jC hd)))
  cases cL (d:=.v di) hi2 q1.r
  refine qM (q1.x.keep _ _ g id) h1 (hj σ _ (bR hj1) A X env s₁ (c.er q1) _ E fun u s₂ q2=>?_)
  cases cL (d:=.v dj) hj2 q2.r
  exact qM ((q1.x.trans q2.x).keep _ _ gb id) h2 (k _ _ ⟨q1.x.trans q2.x,h3⟩)
end
section
variable {α:Type}{ins:α→List α→List α}{le:α→α→Prop}
structure lY (ins:α→List α→List α)(le:α→α→Prop):Prop where
 nil:∀x,ins x []=[x]
 cons:∀x y r,(ins x (y::r)=x::y::r∧le x y)∨(ins x (y::r)=y::ins x r∧le y x)
 trans:∀{a b c},le a b→le b c→le a c
theorem lY.perm (h:lY ins le)(x:α):∀l,(ins x l).Perm (x::l)
 |[]=>h.nil x▸.refl _
 |y::r=>(h.cons x y r).elim (fun e=>e.1▸.refl _) fun e=>e.1▸((h.perm x r).cons y).trans (.swap x y r)
theorem lY.pw (h:lY ins le)(x:α):∀l:List α,l.Pairwise le→(ins x l).Pairwise le
 |[],_=>h.nil x▸List.pairwise_cons.mpr ⟨nofun,.nil⟩
 |y::r,q=>(h.cons x y r).elim
  (fun e=>e.1▸List.pairwise_cons.mpr ⟨fun z hz=>(List.mem_cons.mp hz).elim (fun q=>q▸e.2) fun hz=>h.trans e.2 ((List.pairwise_cons.mp q).1 z hz),q⟩)
  fun e=>e.1▸List.pairwise_cons.mpr ⟨fun z hz=>(List.mem_cons.mp ((h.perm x r).mem_iff.mp hz)).elim (fun q=>q▸e.2) ((List.pairwise_cons.mp q).1 z),h.pw x r (List.pairwise_cons.mp q).2⟩
theorem lY.sort (h:lY ins le){srt:List α→List α}(h0:srt []=[])(h1:∀x r,srt (x::r)=ins x (srt r)):∀l,(srt l).Perm l∧(srt l).Pairwise le
 |[]=>by rw [h0]; exact ⟨.refl _,.nil⟩
 |x::r=>by rw [h1]; exact ⟨(h.perm x _).trans ((h.sort h0 h1 r).1.cons x),h.pw x _ (h.sort h0 h1 r).2⟩
end
theorem aDz:lY mY (·≤·):=⟨fun zz=>rfl,fun x y r=>by
 by_cases h:x≤y
 ·exact .inl ⟨by show (bif decide (x≤y) then _ else _)=_; rw [decide_eq_true h]; rfl,h⟩
 ·exact .inr ⟨by show (bif decide (x≤y) then _ else _)=_; rw [decide_eq_false h]; rfl,Int.le_of_lt (Int.not_le.mp h)⟩,Int.le_trans⟩
theorem aD0 {l m:List Int}(p:m.Perm l)(h:m.Pairwise (·≤·)):m=lR l:=
 have s:=aDz.sort (srt:=lR) rfl (fun zz zz=>rfl) l
 List.Perm.eq_of_pairwise (le:=(·≤·)) (fun a b zz zz h1 h2=>Int.le_antisymm h1 h2) h s.2 (p.trans s.1.symm)
noncomputable abbrev leS (a b:PySem.Str):Prop:=Spec.ltCps b.cps.toList a.cps.toList=false
theorem qO (a b:PySem.Str):leS a b↔a.cps.toList≤b.cps.toList:=by
 unfold leS
 rw [ltCps_eq,decide_eq_false_iff_not]
 exact List.not_lt
theorem aD1 {a b:PySem.Str}(h:leS a b)(h':leS b a):a=b:=aCD (List.le_antisymm ((qO a b).mp h) ((qO b a).mp h'))
theorem RF:lY iW leS:=⟨fun zz=>rfl,fun x y r=>by
 cases h:Spec.ltCps y.cps.toList x.cps.toList with
 |false=>exact .inl ⟨by show (bif Spec.ltCps y.cps.toList x.cps.toList then _ else _)=_; rw [h]; rfl,h⟩
 |true=>exact .inr ⟨by show (bif Spec.ltCps y.cps.toList x.cps.toList then _ else _)=_; rw [h]; rfl,(qO y x).mpr (List.le_of_lt (of_decide_eq_true (ltCps_eq _ _▸h)))⟩,
 fun h h'=>(qO _ _).mpr (List.le_trans ((qO _ _).mp h) ((qO _ _).mp h'))⟩
theorem RG:∀(l:List PySem.Str) (p:PySem.Str),risingS p l=true→(p::l).Pairwise leS
 |[],p,_=>List.pairwise_cons.mpr ⟨nofun,.nil⟩
 |x::r,p,h=>aP (G:=(p::x::r).Pairwise leS) h fun h1 h2=>
  have ih:=RG r x h2
  List.pairwise_cons.mpr ⟨fun z hz=>(List.mem_cons.mp hz).elim (fun q=>q▸dZ h1) fun hz=>RF.trans (dZ h1) ((List.pairwise_cons.mp ih).1 z hz),ih⟩
theorem aD2 {l m:List PySem.Str}(p:m.Perm l)(h:sortedS m=true):m=fS l:=
 have s:=RF.sort (srt:=fS) rfl (fun zz zz=>rfl) l
 List.Perm.eq_of_pairwise (le:=leS) (fun a b zz zz h1 h2=>aD1 h1 h2) (by
  cases m with
  |nil=>exact .nil
  |cons x r=>exact RG r x h) s.2 (p.trans s.1.symm)
section
variable {C:Cx}{X:Addr→Prop}{h:Heap}
theorem tI {p:PV}{i:Int}(h:asI p=some i):p=.int i:=by
 cases p <;> first |exact no h |exact congrArg PV.int (Option.some.inj h)
theorem aD3 {p:PV}{i:List Nat}(h:asS p=some i):p=.str i:=by
 cases p <;> first |exact no h |exact congrArg PV.str (Option.some.inj h)
theorem lZ:∀{xs:List PV} {ns:List Int},eH xs=some ns→xs=ns.map .int∧∀{its:List Value},Reps C X h xs its→IntsAre its ns
 |[],_,q=>aQ q ⟨rfl,fun r=>by cases r; exact .nil⟩
 |x::xs,_,q=>aB q fun i hi q=>aO q fun ns hn=>by
  cases tI hi
  exact ⟨congrArg (PV.int i::·) (lZ hn).1,fun r=>by cases r with |mk p q=>cases p with |mk t=>exact .cons i t ((lZ hn).2 q)⟩
theorem wQ:∀{xs:List PV} {ns:List PySem.Str},lQ xs=some ns→xs=ns.map iX∧∀{its:List Value},Reps C X h xs its→StrsAre its ns
 |[],_,q=>aQ q ⟨rfl,fun r=>by cases r; exact .nil⟩
 |x::xs,_,q=>aB q fun i hi q=>aO q fun ns hn=>by
  cases aD3 hi
  exact ⟨congrArg (PV.str i::·) (wQ hn).1,fun r=>by cases r with |mk p q=>cases p with |mk t=>exact .cons _ t ((wQ hn).2 q)⟩
theorem aD4 {its:List Value}{ns:List Int}(r:IntsAre its ns):Reps C X h (ns.map .int) its:=by
 induction r with
 |nil=>rfl
 |cons n t r ih=>exact ⟨.mk t,ih⟩
theorem aD5 {its:List Value}{ns:List PySem.Str}(r:StrsAre its ns):Reps C X h (ns.map iX) its:=by
 induction r with
 |nil=>rfl
 |cons n t r ih=>exact ⟨.mk t,ih⟩
theorem RH {its:List Value}{ns:List Int}(r:IntsAre its ns):∃ps:List (Int × Tok),its=ps.map (fun p=>Value.int p.1 p.2)∧ps.map (·.1)=ns:=by
 induction r with
 |nil=>exact ⟨[],rfl,rfl⟩
 |cons n t r ih=>exact ih.elim fun ps h=>⟨(n,t)::ps,congrArg (Value.int n t::·) h.1,congrArg (n::·) h.2⟩
end
structure aD6 (m:Int)(xs:List PV)(d:PV)(ns:List Int)(M:Int):Prop where
 n:eH xs=some ns
 e:d=.int M
 mem:M∈m::ns
 le:∀y∈m::ns,y≤M
theorem RI:∀(xs:List PV) (m:Int) (d:PV),sY m xs=some d→∃ns M,aD6 m xs d ns M
 |[],m,d,q=>⟨[],m,rfl,(Option.some.inj q).symm,.head _,fun y hy=>by cases hy with |head=>exact Int.le_refl _ |tail _ h=>cases h⟩
 |x::xs,m,d,q=>aB q fun i hi q=>by
  obtain ⟨ns,M,hn,he,hm,hl⟩:=RI xs _ d q
  have hb:=hl _ (.head _)
  have ht:=fun y hy=>hl y (.tail _ hy)
  refine ⟨i::ns,M,by show (asI x).bind _=_; rw [hi]; show (eH xs).map _=_; rw [hn]; rfl,he,?_,fun y hy=>?_⟩
  ·cases hm with
   |head=>cases decide (m<i) <;> first |exact .head _ |exact .tail _ (.head _)
   |tail _ h=>exact .tail _ (.tail _ h)
  ·by_cases c:m<i
   ·rw [decide_eq_true c] at hb
    cases hy with
    |head=>exact Int.le_trans (Int.le_of_lt c) hb
    |tail _ h=>cases h with
     |head=>exact hb
     |tail _ h=>exact ht y h
   ·rw [decide_eq_false c] at hb
    cases hy with
    |head=>exact hb
    |tail _ h=>cases h with
     |head=>exact Int.le_trans (Int.not_lt.mp c) hb
     |tail _ h=>exact ht y h
theorem RJ:∀(xs:List PV) (m:Int) (d:PV),vR m xs=some d→∃ns,eH xs=some ns∧d=.int (m+ns.sum)
 |[],m,d,q=>⟨[],rfl,(Option.some.inj q).symm.trans (congrArg PV.int (Int.add_zero m).symm)⟩
 |x::xs,m,d,q=>aB q fun i hi q=>(RJ xs _ d q).elim fun ns h=>⟨i::ns,by show (asI x).bind _=_; rw [hi]; show (eH xs).map _=_; rw [h.1]; rfl,by rw [h.2,List.sum_cons,Int.add_assoc]⟩
structure aD7 (xs:List PV)(b:List Nat)(ns:List Int):Prop where
 n:eH xs=some ns
 r:∀n∈ns,0≤n∧n<256
 e:b=ns.map Int.toNat
theorem RK:∀(xs:List PV) (b:List Nat),mZ xs=some b→∃ns,aD7 xs b ns
 |[],b,q=>⟨[],rfl,nofun,(Option.some.inj q).symm⟩
 |x::xs,b,q=>aB q fun i hi q=>oif q fun c q=>aP c fun c1 c2=>aO q fun l hl=>(RK xs l hl).elim fun ns h=>⟨i::ns,by show (asI x).bind _=_; rw [hi]; show (eH xs).map _=_; rw [h.n]; rfl,
  fun n hn=>(List.mem_cons.mp hn).elim (fun e=>e▸⟨dec c1,dec c2⟩) (h.r n),congrArg (i.toNat::·) h.e⟩
section
variable {prog:Program}{w:World}{C:Cx}{X:Addr→Prop}{s:Shared}{A:Around}
theorem aD8 {h:Heap}{ds:List EV}{vs:List Value}{p:PV}{G:List Value→Prop}(e:one (ds.map EV.pv)=some p)(q:EVs C X h ds vs)(k:∀d v,d.pv=p→aV C X h d v→G [v]):G vs:=by
 cases ds with
 |nil=>exact no e
 |cons d ds=>cases ds with
  |nil=>cases q with |mk a b=>cases b; exact k d _ (Option.some.inj e) a
  |cons d' ds=>exact no e
theorem qP {h':Heap}{tk:Nat}(k:∀b o,s.heap.get? b=some o→h'.get? b=some o):Ext NoX s {s with heap:=h',toks:=tk}:=⟨fun a o e zz=>k a o e,rfl,rfl⟩
theorem CJ {n:Nat}(h:n≤sizeLine):(n:Int)<2 ^ 63:=Int.lt_of_le_of_lt (Int.ofNat_le.mpr h) (by decide)
theorem aD9 {ps:List (Int × Tok)}{j:Nat}(h:j<ps.length):numAt ps.toArray j∈ps.map (·.1):=by
 unfold numAt
 rw [List.getElem?_toArray,List.getElem?_eq_getElem h]
 exact List.mem_map.mpr ⟨ps[j],List.getElem_mem h,rfl⟩
theorem aDA {ps:List (Int × Tok)}{M:Int}(h:M∈ps.map (·.1)):∃j,j<ps.length∧numAt ps.toArray j=M:=by
 obtain ⟨p,hp1,rfl⟩:=List.mem_map.mp h
 obtain ⟨j,hj,rfl⟩:=List.mem_iff_getElem.mp hp1
 refine ⟨j,hj,?_⟩
 unfold numAt
 rw [List.getElem?_toArray,List.getElem?_eq_getElem hj]
 rfl
theorem aDB {p:PV}{n:Nat}{d:EV}{v:Value}(hl:PS p=some n)(z:bG n=true)(hp:d.pv=p)(q:aV C X s.heap d v):Tr (model prog w) A (call (.builtin "len") [v]) s (ER C X s (.v (.int n))):=by
 cases p with
 |str x=>
  obtain rfl:=Option.some.inj hl
  cases eR _ hp q (fun zz=>nofun)
  exact fun Q E k=>PySem.P.len_str (Int.not_le.mpr (CJ (jD z))) (k _ _ ⟨Ext.tok _ _ _,.mk _⟩)
 |list xs=>
  obtain rfl:=Option.some.inj hl
  cases dJ (xs:=xs) (congrArg asL hp) q with |mk _ g r=>
  exact fun Q E k=>len_list ⟨_,g,rfl,_,rfl⟩ (CJ (nM z r)) (k _ _ ⟨Ext.tok _ _ _,by rw [r.length]; exact .mk _⟩)
 |tuple xs=>
  obtain rfl:=Option.some.inj hl
  cases eR _ hp q (fun zz=>nofun) with |mk _ g r=>
  exact fun Q E k=>PySem.P.len_tuple g (Int.not_le.mpr (CJ (nM z r))) (k _ _ ⟨Ext.tok _ _ _,by rw [r.length]; exact .mk _⟩)
 |_=>exact no hl
theorem aDC (hh:A.handled=none){p r:PV}{d:EV}{v:Value}(h:PT p=some r)(hp:d.pv=p)(q:aV C X s.heap d v):Tr (model prog w) A (call (.builtin "max") [v]) s (ER C X s (.v r)):=
 aB h fun l hl h=>by
  cases l with
  |nil=>exact no h
  |cons x xs=>
   exact aB h fun i hi h Q E k=>by
    obtain ⟨ns,M,hn,rfl,hM,hall⟩:=RI _ _ _ h
    cases dJ (d:=d) (congrArg asL hp |>.trans hl) q with |mk _ g r=>
    have ia:=(lZ (C:=C) (X:=X) (h:=s.heap) (xs:=x::xs) (ns:=i::ns) (by show (asI x).bind _=_; rw [hi]; show (eH xs).map _=_; rw [hn]; rfl)).2 r
    obtain ⟨ps,rfl,hps⟩:=RH ia
    have hlen:ps.length=ns.length+1:=(List.length_map _).symm.trans (congrArg List.length hps)
    refine max_intList (xs:=ps.toArray) hh ⟨_,g,rfl,_,congrArg (fun a=>Data.seq a _) (List.map_toArray).symm⟩ (show 0<ps.length by rw [hlen]; exact Nat.succ_pos _) fun v h' tk hv hk=>k _ _ ⟨qP hk,?_⟩
    obtain ⟨t,rfl⟩:=intItems_at hv
    obtain ⟨hle,hbest⟩:=argBest_gt (numAt ps.toArray) (ps.toArray.size-1)
    have sz:ps.toArray.size-1<ps.length:=Nat.sub_lt (show 0<ps.length by rw [hlen]; exact Nat.succ_pos _) Nat.one_pos
    obtain ⟨j,hj,e⟩:=aDA (hps.symm▸hM)
    rw [show M=_ from Int.le_antisymm (e▸hbest j (Nat.le_sub_one_of_lt hj)) (hall _ (hps▸aD9 (Nat.lt_of_le_of_lt hle sz)))]
    exact .mk t
theorem aDD (hh:A.handled=none){a b:Int}{d d':EV}{v v':Value}(ha:asI d.pv=some a)(hb:asI d'.pv=some b)(q:aV C X s.heap d v)(q':aV C X s.heap d' v'):
  Tr (model prog w) A (call (.builtin "max") [v,v']) s (ER C X s (.v (.int (bif decide (a<b) then b else a)))):=fun Q E k=>by
 cases cL ha q
 cases cL hb q'
 refine max_two_ints hh fun h' tk hk=>k _ _ ⟨qP hk,?_⟩
 by_cases hab:a<b
 ·rw [if_pos hab,decide_eq_true hab]; exact .mk _
 ·rw [if_neg hab,decide_eq_false hab]; exact .mk _
theorem aDE (hh:A.handled=none){xs:List PV}{r:PV}{d:EV}{v:Value}(h:vR 0 xs=some r)(hp:asL d.pv=some xs)(q:aV C X s.heap d v):Tr (model prog w) A (call (.builtin "sum") [v]) s (ER C X s (.v r)):=fun Q E k=>by
 cases dJ hp q with |mk _ g r=>
 obtain ⟨ns,hn,rfl⟩:=RJ _ _ _ h
 obtain ⟨ps,rfl,hps⟩:=RH ((lZ hn).2 r)
 refine sum_intListG (xs:=ps.toArray) hh ⟨_,g,rfl,_,congrArg (fun a=>Data.seq a _) (List.map_toArray).symm⟩ fun h' tk t' hk=>k _ _ ⟨qP hk,?_⟩
 rw [preSum_eq,show ps.toArray.size=(ps.toArray.toList.map (·.1)).length from (List.length_map _).symm,List.take_length,show ps.toArray.toList.map (·.1)=ns from hps,Int.zero_add]
 exact .mk t'
theorem RL (hx:∀a,X a→∃o,s.heap.get? a=some o){a:Addr}(h:s.heap.objs.size≤a):¬ X a:=fun x=>(hx a x).elim fun o q=>Nat.lt_irrefl _ (Nat.lt_of_lt_of_le (Heap.lt_size q) h)
theorem aDF (hx:∀a,X a→∃o,s.heap.get? a=some o){xs l:List PV}{d:EV}{v:Value}(z:xs.length<64)(h:lT xs=some l)(hp:asL d.pv=some xs)(q:aV C X s.heap d v):Tr (model prog w) A (call (.builtin "sorted") [v]) s (ER C X s (.v (.list l))):=fun Q E k=>by
 cases dJ hp q with | @mk a its n _ g r=>
 have h64:=r.length▸z
 have fin:∀out:Array Value,Reps C X s.heap l out.toList→Q (.ref (s.heap.objs.size+1)) {s with heap:=sortedAll s.heap its out}:=fun out q=>(sortedAll_at s.heap _ out).elim fun e he=>
  k _ _ ⟨⟨fun zz zz e zz=>sortedAll_old e,rfl,rfl⟩,.mk (RL hx (Nat.le_succ _)) he (Reps.keep (.nox fun zz zz e zz=>sortedAll_old e) l q)⟩
 have hl:s.heap.IsList a its.toArray:=⟨_,g,rfl,_,rfl⟩
 cases hi:eH xs with
 |some ns=>
  rw [lT,hi] at h
  exact sorted_ints hl ((lZ hi).2 r) h64 fun out ns' a1 a2 a3=>fin out (by rw [←Option.some.inj h,←aD0 a2 a3]; exact aD4 a1)
 |none=>
  rw [lT,hi] at h
  exact aO (G:=fun l=>(∀out:Array Value,Reps C X s.heap l out.toList→Q (.ref (s.heap.objs.size+1)) {s with heap:=sortedAll s.heap its out})→_) h (fun ss hs fin=>sorted_strs hl ((wQ hs).2 r) h64 fun out ns' a1 a2 a3=>fin out (by rw [←aD2 a2 a3]; exact aD5 a1)) fin
theorem aDG (hg:A.guards=some [])(hu:A.units+100<cLine){r:List Nat}{d:EV}{v:Value}(h:BB d.pv=some r)(q:aV C X s.heap d v):Tr (model prog w) A (call (.builtin "repr") [v]) s (ER C X s (.v (.str r))):=
 aB h fun xs hx h=>oif h fun c h=>aP c fun c c4=>aP c fun c c3=>aP c fun c1 c2=>aQ h fun Q E k=>by
  have L:=iG 8 _ c1
  obtain ⟨as,ra⟩:=L.reads (d:=.h xs) (dJ hx q)
  cases dJ hx q with |mk _ g _=>
  refine repr_of_reads' ra c2 (fun hh=>absurd (hh.symm.trans (dZ c3)) (by decide)) hg (by have:=L.l; show A.units+(toD (PV.list xs)).depth+1<cLine; omega) (fun zz zz e=>e) (fun h' u tk hk=>k _ _ ⟨qP hk,.mk u⟩) (jD c4)
theorem aDH {i:Int}{r:List Nat}{d:EV}{v:Value}(h:PN i=some r)(hp:asI d.pv=some i)(q:aV C X s.heap d v):Tr (model prog w) A (call (.builtin "hex") [v]) s (ER C X s (.v (.str r))):=
 oif h fun c h=>aQ h fun Q E k=>by
  cases cL hp q
  exact PySem.P.hex_of_int (k _ _ ⟨Ext.tok _ _ _,.mk _⟩) (jD c)
theorem aDI (hx:∀a,X a→∃o,s.heap.get? a=some o){xs:List PV}{d:EV}{v:Value}(z:bG xs.length=true)(hp:asL d.pv=some xs)(q:aV C X s.heap d v):Tr (model prog w) A (call (.type "tuple") [v]) s (ER C X s (.v (.tuple xs))):=fun Q E k=>by
 cases dJ hp q with | @mk a its n _ g r=>
 refine call_tuple_list ⟨_,g,rfl,_,rfl⟩ (fun h' hk=>k _ _ ?_) (nM z r)
 have k2:aG NoX s.heap (h'.push (aW its 0)):=aG.trans (fun a o e zz=>hk a o e) (aG.push NoX h' _)
 exact ⟨⟨k2,rfl,rfl⟩,.mk (fun x=>(hx _ x).elim fun o ho=>Nat.lt_irrefl _ (Heap.lt_size (hk _ _ ho))) (Heap.get?_push_size _ rfl) (Reps.keep (.nox k2) xs r)⟩
theorem aDJ (hh:A.handled=none){xs:List PV}{b:List Nat}{d:EV}{v:Value}(z:bG xs.length=true)(h:mZ xs=some b)(hp:asL d.pv=some xs)(q:aV C X s.heap d v):Tr (model prog w) A (call (.type "bytes") [v]) s (ER C X s (.v (.bytes b))):=fun Q E k=>by
 cases dJ hp q with |mk _ g r=>
 obtain ⟨ns,hn,hr,rfl⟩:=RK _ _ h
 refine call_bytes_ints ⟨_,g,rfl,_,rfl⟩ ((lZ hn).2 r) hr (nM z r) hh fun h' t hk' hk=>k _ _ ⟨qP hk,?_⟩
 rw [show byteArr ns=((ns.map Int.toNat).map fun c=>c.toUInt8).toArray by unfold byteArr; rw [List.map_map]; rfl]
 refine .mk t fun c hc=>?_
 obtain ⟨m,hm,rfl⟩:=List.mem_map.mp hc
 exact (Int.toNat_lt (hr m hm).1).mpr (hr m hm).2
end
theorem bor {α:Type}{c:Bool}{a b y:α}{G:Prop}(h:(bif c then a else b)=y)(k1:c=true→a=y→G)(k2:b=y→G):G:=by
 cases c with
 |true=>exact k1 rfl h
 |false=>exact k2 h
section
variable {prog:Program}{w:World}{C:Cx}{X:Addr→Prop}{s:Shared}{A:Around}
theorem bi_ {F:PV→Option PV}{ds:List EV}{vs:List Value}{d:PV}{f:Value}(h:bi1 F (ds.map EV.pv)=some d)(q:EVs C X s.heap ds vs)
  (k:∀p e v,F p=some d→e.pv=p→aV C X s.heap e v→Tr (model prog w) A (call f [v]) s (ER C X s (.v d))):Tr (model prog w) A (call f vs) s (ER C X s (.v d)):=
 aB h fun p hp h=>aD8 (G:=fun vs=>Tr (model prog w) A (call f vs) s (ER C X s (.v d))) hp q fun e v he qv=>k p e v h he qv
theorem aDK (hB:Bud A)(hx:∀a,X a→∃o,s.heap.get? a=some o){f:Nm}{ds:List EV}{vs:List Value}{d:PV}(h:tA f (ds.map EV.pv)=some d)(q:EVs C X s.heap ds vs):
  Tr (model prog w) A (call (fnV f) vs) s (ER C X s (.v d)):=by
 refine bor h (fun c h=>?_) fun h=>bor h (fun c h=>?_) fun h=>bor h (fun c h=>?_) fun h=>bor h (fun c h=>?_) fun h=>bor h (fun c h=>?_) fun h=>bor h (fun c h=>?_) fun h=>bor h (fun c h=>?_) fun h=>bor h (fun c h=>?_) fun h=>bor h (fun c h=>?_) fun h=>bor h (fun c h=>?_) fun h=>no h
 ·cases bH c
  exact bi_ h q fun p e v h he qv=>aB h fun n hn h=>oif h fun z h=>aQ h (aDB hn z he qv)
 ·cases bH c
  cases ds with
  |nil=>exact no h
  |cons a ds=>cases ds with
   |nil=>cases q with |mk p q=>cases q; exact aDC hB.handled h rfl p
   |cons b ds=>cases ds with
    |nil=>cases q with |mk p q=>cases q with |mk p' q=>cases q; exact aB h fun x hx h=>aO h fun y hy=>aDD hB.handled hx hy p p'
    |cons c ds=>exact no h
 ·cases bH c
  exact bi_ h q fun p e v h he qv=>aB h fun l hl h=>aDE hB.handled h (he▸hl) qv
 ·cases bH c
  exact bi_ h q fun p e v h he qv=>aB h fun l hl h=>aO h fun c hc Q E k=>by
   cases qH (he▸hl) qv
   cases l with
   |nil=>exact no hc
   |cons a l=>cases l with
    |nil=>cases Option.some.inj hc; exact PySem.P.ord_of_char (k _ _ ⟨Ext.tok _ _ _,.mk _⟩)
    |cons b l=>exact no hc
 ·cases bH c
  exact bi_ h q fun p e v h he qv=>aB h fun i hi h=>oif h fun c h=>aP c fun c1 c2=>aQ h fun Q E k=>by
   cases cL (he▸hi) qv
   exact PySem.P.chr_of_int (by have:=dec c1; have:=dec c2; simp; omega) (k _ _ ⟨Ext.tok _ _ _,.mk _⟩)
 ·cases bH c
  exact bi_ h q fun p e v h he qv=>aB h fun l hl h=>oif h fun z h=>aO h fun r hr=>aDF hx (dec z) hr (he▸hl) qv
 ·cases bH c
  exact bi_ h q fun p e v h he qv=>aO h fun r hr=>aDG hB.guards hB.units (he▸hr) qv
 ·cases bH c
  exact bi_ h q fun p e v h he qv=>aB h fun i hi h=>aO h fun r hr=>aDH hr (he▸hi) qv
 ·cases bH c
  exact bi_ h q fun p e v h he qv=>aB h fun l hl h=>oif h fun z h=>aQ h (aDI hx z (he▸hl) qv)
 ·cases bH c
  exact bi_ h q fun p e v h he qv=>aB h fun l hl h=>oif h fun z h=>aO h fun r hr=>aDJ hB.handled z hr (he▸hl) qv
end
section
variable {M:Model}{A:Around}{E:Value→Shared→Prop}{s:Shared}{env:Env}
theorem qQ (id:String):iH M A (.builtin id) s:=fun Q E h=>wpAny_pure (h _)
theorem nO (id:String):iH M A (.type id) s:=fun Q E h=>wpAny_pure (h _)
theorem aDL {a:Addr}{o:Obj}{fd:FuncData}(ho:s.heap.get? a=some o)(hd:o.data=.func fd):iH M A (.ref a) s:=fun Q E h=>by
 unfold keeperOf
 refine wpAny_bind (wpAny_load ho ?_)
 rw [hd]
 exact wpAny_pure (h _)
theorem aDM (f:Nm):iH M A (fnV f) s:=by
 unfold fnV
 repeat' (first |exact qQ _ |exact nO _ |(cases aC f _ <;> dsimp only [cond_true,cond_false]))
theorem tJ {pos:Pos}{f:Value}{first:List Value}{args:List (Bool × Sem Value)}{Q:Value→Shared→Prop}(hplain:args.any (·.1)=false)
  (h:wpAny M A (evalArgs f true args []) (fun x s₁=>iH M A f s₁∧wpAny M A (call f (first++x.pos) x.kw) Q E s₁) E s) :
  wpAny M A (callWith pos f first args []) Q E s:=by
 unfold callWith
 refine wpAny_bind (wpAny_holding (wpAny_mono h (fun x s₁ h₁=>wpAny_bind (wpAny_standAt ?_)) fun zz zz x=>x))
 have tail:∀{t:Sem Value},wpAny M A t Q E s₁→wpAny M A (t>>=fun r=>holding [r] point>>=fun zz=>pure r) Q E s₁:=
  fun ht=>wpAny_bind (wpAny_mono ht (fun r s₂ hr=>wpAny_bind (wpAny_holding (wpAny_point (wpAny_pure hr)))) fun zz zz x=>x)
 simp only [hplain,List.any_nil,Bool.or_false]
 refine wpAny_bind (h₁.1 _ _ fun k=>?_)
 cases k with
 |frame=>
  dsimp only
  split
  ·exact tail h₁.2
  ·exact tail (by unfold callMarked; exact Calls.wpAny_keep h₁.2)
 |boundFrame=>
  dsimp only
  split
  ·exact tail h₁.2
  ·exact tail (by unfold callMarked; exact Calls.wpAny_keep h₁.2)
 |machine=>exact tail h₁.2
 |caller=>exact tail (wpAny_operate' h₁.2)
theorem tK {f:Value}{Q:Args→Shared→Prop}:∀(args:List (Bool × Sem Value)),args.any (·.1)=false→wpAny M A (spliced args) (fun vs s'=>Q ⟨vs,[]⟩ s') E s→wpAny M A (evalArgs f true args []) Q E s
 |[],_,h=>by
  unfold evalArgs
  show wpAny M A (spliced []>>=_) Q E s
  exact wpAny_bind (wpAny_mono h (fun vs s' h'=>wpAny_holding (wpAny_bind (wpAny_pure (wpAny_bind (wpAny_pure (wpAny_pure h')))))) fun zz zz x=>x)
 |(true,x)::r,hp,_=>by cases hp
 |(false,x)::r,_,h=>Calls.evalArgs_plain h
end
open PySem.Builtin.Str
section
variable {prog:Program}{w:World}{C:Cx}{X:Addr→Prop}{s:Shared}{A:Around}
theorem RM {h:Heap}:∀(l:List (PySem.Str × Tok)),Reps C X h ((l.map (·.1)).map iX) (strValues l)
 |[]=>rfl
 |(x,t)::r=>⟨.mk t,RM r⟩
theorem tL (hx:∀a,X a→∃o,s.heap.get? a=some o){l:List (PySem.Str × Tok)}{ss:List PySem.Str}{k:Nat}(h:l.map (·.1)=ss):
  ER C X s (.v (.list (ss.map iX))) (.ref s.heap.objs.size) {s with heap:=s.heap.push (aS (strValues l) 0),toks:=k}:=by
 subst h
 exact ⟨⟨aG.push _ _ _,rfl,rfl⟩,.mk (RL hx (Nat.le_refl _)) (Heap.get?_push_size _ rfl) (RM l)⟩
theorem aDN (hx:∀a,X a→∃o,s.heap.get? a=some o){x:PySem.Str}{t:Tok}{d:List PV}(h:PO x=some d):
  Tr (model prog w) A (call (.builtin "str.split") [.str x t]) s (ER C X s (.v (.list d))):=oif h fun c h=>aP c fun c1 c2=>aQ h fun Q E k=>by
 refine call_meets F.slot_str_split (typeIs_str _ _ _) F.entry_str_split (F.args_str_split_1 _) (meets_str_split_space x t (jD c1) (jD c2)) ?_
 cases hw:spaceWords x (x.length+1)==[(0,x.length)] with
 |false=>
  rw [if_neg Bool.false_ne_true,strsFrom_eq]
  exact k _ _ (tL hx ((numbered_texts _ _).trans (if_neg (ne_true_of_eq_false hw)).symm))
 |true=>
  rw [if_pos rfl]
  exact k _ _ (tL (l:=[(x,t)]) hx (if_pos hw).symm)
theorem aDO (hx:∀a,X a→∃o,s.heap.get? a=some o){x y:PySem.Str}{t u:Tok}{d:List PV}(h:PP x y=some d):
  Tr (model prog w) A (call (.builtin "str.split") [.str x t,.str y u]) s (ER C X s (.v (.list d))):=oif h fun c h=>aP c fun c c2=>aP c fun c1 hy=>aQ h fun Q E k=>by
 cases h1:(decide (x.length<y.length) || decide (strKind x<strKind y)) with
 |true=>
  exact call_meets F.slot_str_split (typeIs_str _ _ _) F.entry_str_split (F.args_str_split_2 _ _) (meets_str_split_cannot_occur x y t u h1)
   (k _ _ (tL (l:=[(x,t)]) hx (if_pos h1).symm))
 |false=>
  cases hf:(occurrences x y 0 x.length (x.length+1)).isEmpty with
  |true=>
   exact call_meets F.slot_str_split (typeIs_str _ _ _) F.entry_str_split (F.args_str_split_2 _ _) (meets_str_split_not_found x y t u h1 (dZ hy) hf)
    (k _ _ (tL (l:=[(x,t)]) hx ((if_neg (ne_true_of_eq_false h1)).trans (if_pos hf)).symm))
  |false=>
   refine call_meets F.slot_str_split (typeIs_str _ _ _) F.entry_str_split (F.args_str_split_2 _ _) (meets_str_split_sep x y t u h1 (dZ hy) hf (jD c1) (jD c2)) ?_
   show wants _ E _ {s with toks:=_,heap:=s.heap.push {cls:=.type "list",data:=.seq (strsFrom s.toks (partsBetween x (occurrences x y 0 x.length (x.length+1)) y.length)).toArray}}
   rw [strsFrom_eq]
   exact k _ _ (tL hx ((numbered_texts _ _).trans ((if_neg (ne_true_of_eq_false h1)).trans (if_neg (ne_true_of_eq_false hf))).symm))
theorem aDP {x:List Nat}{t:Tok}{d:EV}{v:Value}{xs:List PV}{r:List Nat}(hp:asL d.pv=some xs)(q:aV C X s.heap d v)(h:sZ x xs=some r):
  Tr (model prog w) A (call (.builtin "str.join") [iC x t,v]) s (ER C X s (.v (.str r))):=aB h fun ys hys h=>oif h fun c h=>aQ h fun Q E k=>by
 cases dJ hp q with |mk _ g rs=>
 exact PyProof.Rows.join_list ⟨_,g,rfl,_,rfl⟩ ((wQ hys).2 rs) (dec c) fun t' n=>k _ _ ⟨Ext.tok _ _ _,.mk t'⟩
theorem aDQ {x:PySem.Str}{t:Tok}{d:PV}(h:PQ x=some d):
  Tr (model prog w) A (call (.builtin "str.lower") [.str x t]) s (ER C X s (.v d)):=oif h fun c h=>aQ h fun Q E k=>
 PyProof.Rows.SCL.lower (dec c) fun zz=>k _ _ ⟨Ext.tok _ _ _,.mk _⟩
theorem Reps.back {h:Heap}{xs:List PV}{its:List Value}(r:Reps C X h xs its){m:Nat}{u:Value}(hu:its[m]?=some u):∃y,xs[m]?=some y∧Rep C X h y u:=by
 have hlt:m<xs.length:=r.length▸(List.getElem?_eq_some_iff.mp hu).1
 obtain ⟨u',hu',hr⟩:=r.get m xs[m] (List.getElem?_eq_getElem hlt)
 cases hu.symm.trans hu'
 exact ⟨_,List.getElem?_eq_getElem hlt,hr⟩
end
theorem RN:mkS AT=("split" : PySem.Str):=by decide +kernel
theorem aDR:mkS PF=("lower" : PySem.Str):=by decide +kernel
theorem aDS:mkS vJ=("join" : PySem.Str):=by decide +kernel
theorem aDT:mkS AS=("get" : PySem.Str):=by decide +kernel
section
variable {T:Th}{G:Gl}{σ:Sg}{A:Around}{X:Addr→Prop}{env:Env}{s:Shared}{F:Value→Shared→Prop}{Q:Value→Shared→Prop}
structure CK (pos:Pos)(es:List E)(env:Env):Prop where
 any:(backTo pos (starEach (bs es) env)).any (·.1)=false
 all:(backTo pos (starEach (bs es) env)).all (fun x=>!x.1)=true
theorem mB {pos:Pos}:∀{es:List E} {ds:List EV},eA (evs G es σ)=some ds→CK pos es env
 |[],_,_=>⟨rfl,rfl⟩
 |e::es,ds,h=>aB h fun d hd h=>aO (G:=fun zz=>CK pos (e::es) env) h fun m hm=>by
  have q:=mB (pos:=pos) hm
  have e1:=QR hd (bs es) env
  constructor
  ·show (backTo pos (starEach (e.b::bs es) env)).any (·.1)=false
   rw [e1]; exact q.any
  ·show (backTo pos (starEach (e.b::bs es) env)).all (fun x=>!x.1)=true
   rw [e1]; exact q.all
theorem mC {pos:Pos}{f:Value}{first:List Value}{es:List E}{ds:List EV}(hs:aZ (aF T G) es)(h:eA (evs G es σ)=some ds)(c:bE T G σ A X env s)(hk:∀s,aG NoX T.C.hb s.heap→iH (model T.prog T.w) A f s)
  (hc:∀vs s',ERs T.C X s ds vs s'→wpAny (model T.prog T.w) A (PySem.call f (first++vs)) Q F s') :
  wpAny (model T.prog T.w) A (callWith pos f first (backTo pos (starEach (bs es) env)) []) Q F s:=
 tJ (mB h).any (tK _ (mB h).any (wH hs h c _ F fun vs s' q=>⟨hk s' (c.ext q.x).e.base,hc vs s' q⟩))
theorem RO {os:List (Option EV)}{l:List PV}{G:Prop}(h:iY os=some l)(k:∀ds,eA os=some ds→ds.map EV.pv=l→G):G:=by
 rw [QQ] at h
 cases ha:eA os with
 |none=>rw [ha] at h; cases h
 |some ds=>rw [ha] at h; exact k ds ha (Option.some.inj h)
theorem wR {d:PV}{r:EV}{G:EV→Prop}(h:mkV d=some r)(k:G (.v d)):G r:=oif h fun z h=>aQ h k
theorem aDU (hG:aY T G){f:Nm}{fp p:Pos}{es:List E}(hs:aZ (aF T G) es):aF T G (.callB f fp es p):=fun σ d h=>oif h fun g h=>aP g fun g1 g2=>aB h fun l hl h=>aB h fun r hr h=>wR (G:=qI T G (.callB f fp es p) σ) h fun A X env s c Q E k=>
 RO hl fun ds hds el=>Call_ (gname hG g1 (hG.bname f g2) c (mC hs hds c (fun zz zz=>aDM f) fun vs s' q=>aDK (hG.bud A c.pa) (c.ext q.x).e.bnd (el▸hr) q.r _ E fun v s2 q2=>k v s2 (.pre q.x q2)))
theorem aDV (hG:aY T G){f:Nm}{fp p:Pos}{es:List E}(hs:aZ (aF T G) es):aF T G (.callD f fp es p):=fun σ d h=>oif h fun g h=>aB h fun l hl h=>aO h fun r hr A X env s c Q E k=>by
 cases hG.call _ _ _ hr with |mk gv fo=>
 exact Call_ (gname hG g gv c (mC hs (jF hl) c (fun s b=>fo.keep A s b) fun vs s' q=>fo.run A X s' vs (c.ext q.x).at q.r.reps _ E fun v s2 q2=>k v s2 (.pre q.x q2)))
theorem aDW {o:E}{name:PySem.Str}{m:Sem Value}(h:BM o=true):attributeBase o.b name env m=m:=by
 cases o with
 |callB f fp es p=>cases es with
  |nil=>cases h
  |cons e r=>rfl
 |callD f fp es p=>cases es with
  |nil=>cases h
  |cons e r=>rfl
 |raw e=>cases h
 |_=>rfl
theorem CL {o:E}{name:PySem.Str}{ap pos:Pos}{es:List E}(hst:CK pos es env)(hfew:(BL es ap pos && BM o)=true)
  (h:wpAny (model T.prog T.w) A (eval o.b env) (fun ov s₁=>∀pl,wpAny (model T.prog T.w) A (getMethod ov name pl) (fun p s₂=>wpAny (model T.prog T.w) A (callWith pos p.1 p.2 (backTo pos (starEach (bs es) env)) []) Q F s₂) F s₁) F s) :
  wpAny (model T.prog T.w) A (eval (.Call (.Attribute o.b name ap) (bs es) [] pos) env) Q F s:=aP hfew fun hfew hb=>aP hfew fun hline hfew=>by
 rw [arm_eval_Call,aDW hb]
 refine wpAny_bind (wpAny_mono h (fun ov s₁ h₁=>?_) fun zz zz e=>e)
 refine wpAny_bind (wpAny_standAt ?_)
 have hlen:∀es:List E,(bs es).length=es.length:=fun es=>by
  induction es with
  |nil=>rfl
  |cons e r ih=>exact congrArg (·+1) ih
 have hform:methodCallForm ((bs es).length+([]:List Keyword).length) (backTo pos (starEach (bs es) env)) (backToKw pos (keywordEach [] env))=true:=by
  exact Bool.and_eq_true_iff.mpr ⟨Bool.and_eq_true_iff.mpr ⟨hst.all,rfl⟩,decide_eq_true (by have:=dec hfew; show (bs es).length+0+0<30; rw [hlen]; omega)⟩
 have hpos:methodCallPos true o.b env ap pos=pure pos:=by unfold methodCallPos; rw [hline]; rfl
 unfold methodCall
 rw [hform]
 refine wpAny_bind (wpAny_holding ?_)
 unfold calleeOf
 rw [if_pos rfl]
 exact wpAny_mono (h₁ _) (fun p s₂ h₂=>wpAny_bind (wpAny_of_eq hpos h₂)) fun zz zz e=>e
end
section
variable {T:Th}{G:Gl}{σ:Sg}{A:Around}{X:Addr→Prop}{env:Env}{s:Shared}{pos:Pos}{es:List E}{ds:List EV}{ov:Value}{m:Nm}{d:PV}
noncomputable def MOk (T:Th)(A:Around)(X:Addr→Prop)(env:Env)(s:Shared)(pos:Pos)(es:List E)(ov:Value)(m:Nm)(d:PV):Prop:=∀pl Q E,(∀v s',ER T.C X s (.v d) v s'→Q v s') →
 wpAny (model T.prog T.w) A (getMethod ov (mkS m) pl) (fun p s₂=>wpAny (model T.prog T.w) A (callWith pos p.1 p.2 (backTo pos (starEach (bs es) env)) []) Q E s₂) E s
theorem aDX (hs:aZ (aF T G) es)(hds:eA (evs G es σ)=some ds)(c:bE T G σ A X env s){Ty id:String}{name:PySem.Str}(hT:s.TypeIs ov Ty)(pa:PlainAttrs Ty)(hd:∀a,ov=.ref a→∃o,s.heap.get? a=some o∧o.dict=none)
  (slot:PySem.Slot Ty name id) (hty:typeOf (.builtin id)=pure (.type "method_descriptor")) {x:Nm} (e:mkS x=name) (hm:aC m x=true)
  (hcall:∀vs s',ERs T.C X s ds vs s'→Tr (model T.prog T.w) A (PySem.call (.builtin id) (ov::vs)) s' (ER T.C X s' (.v d))):MOk T A X env s pos es ov m d:=fun pl Q E k=>by
 rw [bH hm,e]
 exact getMethod_builtin hT pa slot hty hd (mC hs hds c (fun zz zz=>qQ _) fun vs s' q=>hcall vs s' q _ E fun v s2 q2=>k v s2 (.pre q.x q2))
theorem aDY {z:List Nat}{t:Tok}(hs:aZ (aF T G) es)(hds:eA (evs G es σ)=some ds)(c:bE T G σ A X env s)(hm:PU m z (ds.map EV.pv)=some d):MOk T A X env s pos es (iC z t) m d:=by
 have by_ {d:PV} {id:String} {name:PySem.Str}:=@aDX T G σ A X env s pos es ds (iC z t) m d hs hds c "str" id name (typeIs_str _ _ _) F.plainAttrs_str (fun a ha=>by cases ha)
 cases ds with
 |nil=>
  refine bor hm (fun hk h=>aO (G:=fun d=>MOk T A X env s pos es (iC z t) m d) h fun l hl=>?_) fun h=>oif h fun hk h=>?_
  ·exact by_ F.slot_str_split F.type_str_split RN hk fun vs s' q=>by
    cases q.r
    exact aDN (c.ext q.x).e.bnd hl
  ·exact by_ F.slot_str_lower F.type_str_lower aDR hk fun vs s' q=>by
    cases q.r
    exact aDQ h
 |cons a r=>cases r with
  |nil=>
   refine bor (c:=aC m vJ) hm (fun hk h=>aB h fun xs hx h=>aO (G:=fun d=>MOk T A X env s pos es (iC z t) m d) h fun l hl=>?_) fun h=>oif h fun hk h=>aB h fun y hy h=>aO (G:=fun d=>MOk T A X env s pos es (iC z t) m d) h fun l hl=>?_
   ·exact by_ F.slot_str_join F.type_str_join aDS hk fun vs s' q=>by
     cases q.r with |mk p q'=>cases q'; exact aDP hx p hl
   ·exact by_ F.slot_str_split F.type_str_split RN hk fun vs s' q=>by
     cases q.r with |mk p q'=>cases q'; cases qH hy p; exact aDO (c.ext q.x).e.bnd hl
  |cons b r=>exact no hm
theorem aDZ {x:EV}(hs:aZ (aF T G) es)(hds:eA (evs G es σ)=some ds)(c:bE T G σ A X env s)(q:aV T.C X s.heap x ov)(hm:BD m x.pv (ds.map EV.pv)=some d):MOk T A X env s pos es ov m d:=by
 generalize hp:x.pv=p at hm
 cases p with
 |str z=>
  cases qH (x:=z) (congrArg asS hp) q with |mk t=>exact aDY hs hds c hm
 |_=>exact no hm
theorem RepF.none_ {h:Heap}{x:Nm}:∀{fs:List (Nm × PV)} {m:PySem.Str→Option Value},RepF T.C X h fs m→aD x fs=none→m (mkS x)=none
 |[],_,r,_=>r _
 |(y,d')::fs,m,r,q=>by
  cases r with |mk a b e=>
  rw [e]
  cases k:aC y x with
  |true=>rw [show aD x ((y,d')::fs)=some d' by show (bif aC y x then _ else _)=_; rw [k]; rfl] at q; cases q
  |false=>
   rw [show aD x ((y,d')::fs)=aD x fs by show (bif aC y x then _ else _)=_; rw [k]; rfl] at q
   exact (if_neg fun e=>Bool.false_ne_true (k.symm.trans (by rw [qF e]; exact fV y))).trans (RepF.none_ b q)
theorem aEa (hG:aY T G){l:List PV}{fs:List (Nm × PV)}(hs:aZ (aF T G) es)(hl:cV (evs G es σ)=some l)(c:bE T G σ A X env s)(q:Rep T.C X s.heap (.inst fs) ov)(hn:aD m fs=none)(hm:G.meth m (.inst fs::l)=some d):MOk T A X env s pos es ov m d:=fun pl Q E k=>by
 obtain ⟨f,mo⟩:=hG.meth _ _ _ hm
 cases id q with |mk _ _ ne g oc od on nd rf=>
 exact mo.get A X s _ _ pl _ E c.at ⟨_,g,oc,on,.inr ⟨_,od,ne,nd⟩⟩ (rf.none_ hn) (mC hs (jF hl) c (fun s b=>mo.fn.keep A s b) fun vs s' x=>mo.fn.run A X s' _ (c.ext x.x).at ⟨Rep.keep (.nox x.x.keep) (.inst fs) q,x.r.reps⟩ _ E fun v s2 q2=>k v s2 (.pre x.x q2))
theorem aEb (hG:aY T G){o:E}{ap p:Pos}(ho:aF T G o)(hs:aZ (aF T G) es):aF T G (.meth o m ap es p):=fun σ d h=>oif h fun hf h=>aB h fun x hx h A X env s c Q E k=>by
 have fin:∀ds y,eA (evs G es σ)=some ds→(∀v s₁,ER T.C X s x v s₁→MOk T A X env s₁ p es v m y)→d=.v y→wpAny (model T.prog T.w) A (eval (Mine.V.E.meth o m ap es p).b env) Q E s:=fun ds y hds hk e=>by
  cases e
  exact CL (mB hds) hf (ho σ x hx A X env s c _ E fun v s₁ q pl=>hk v s₁ q pl Q E fun v s2 q2=>k v s2 (q.to q2))
 generalize hp:x.pv=xp at h
 cases hf:asF xp with
 |none=>
  rw [hf] at h
  exact aB h fun l hl h=>aB h fun y hy h=>RO hl fun ds hds el=>fin ds y hds (fun v s₁ q=>aDZ hs hds (c.er q) q.r (by rw [hp,el]; exact hy)) (wR (G:=fun d=>d=.v y) h rfl)
 |some fs=>
  rw [hf] at h
  have e:xp=.inst fs:=by cases xp <;> first |exact no hf |exact congrArg PV.inst (Option.some.inj hf)
  exact aB h fun l hl h=>oif h fun hn h=>aO (G:=fun d'=>d=d'→wpAny (model T.prog T.w) A (eval (Mine.V.E.meth o m ap es p).b env) Q E s) h (fun y hy e'=>fin _ y (jF hl) (fun v s₁ q=>aEa hG hs hl (c.er q) (eR _ (hp.trans e) q.r fun zz=>nofun) (Option.isNone_iff_eq_none.mp hn) hy) e') rfl
end
section
variable {T:Th}{G:Gl}
theorem RP (hG:aY T G){σ:Sg}{l:E}{x:Nm}{xp:Pos}{d:EV}(hl:aF T G l)(h:inE G x (ev G l σ)=some d){A:Around}{X:Addr→Prop}{env:Env}{s:Shared}(c:bE T G σ A X env s){R:Prop}
  (k:∀b,d=.v (.bool b)→(∀Q E,(∀v s',VR s (Value.bool b) v s'→Q v s')→wpAny (model T.prog T.w) A (eval l.b env) (fun v s₁=>wpAny (model T.prog T.w) A (eval (.Name (mkS x) xp) env) (fun u s₂=>wpAny (model T.prog T.w) A (compareOp .In v u) Q E s₂) E s₁) E s)→R):R:=
 aB h fun a ha h=>oif h fun hg h=>aO (G:=fun d'=>d=d'→R) h (fun b hb e=>k b e fun Q E k=>by
  cases hG.inSet _ _ _ hb with |mk gv r=>
  exact hl σ _ (bR ha) A X env s c _ E fun v s₁ q=>gname hG hg gv (c.er q) (r A X s₁ v (c.er q).at q.r _ E fun v' s₂ q2=>k _ _ ⟨q.x.trans q2.x,q2.e⟩)) rfl
theorem aEc (hG:aY T G){l:E}{x:Nm}{xp p:Pos}(hl:aF T G l):aF T G (.inS l x xp p):=fun σ d h A X env s c=>RP (xp:=xp) hG hl h c fun b e r Q E k=>by
 cases e
 show wpAny _ _ (eval (.Compare l.b [.In] (bs [.gname x xp]) p) env) Q E s
 rw [QV rfl]
 exact wpAny_bind (QL (r _ E fun v s' q=>k v s' ⟨q.x,q.e⟩) fun v s₁ h=>chain_last h)
theorem aEd (hG:aY T G){l:E}{x:Nm}{xp p:Pos}(hl:aF T G l):dC T G (.inS l x xp p):=fun σ b h=>aB h fun d hd h A X env s c=>RP (xp:=xp) hG hl hd c fun b' e r Q E k=>by
 cases e
 cases h
 show wpAny _ _ (do testChain p (←eval l.b env) [.In] (markedEach [.In] (bs [.gname x xp]) (evalEach (bs [.gname x xp]) env))) Q E s
 rw [markedEach_of_false _ _ _ rfl]
 exact wpAny_bind (QL (r _ E fun v s' q=>wJ q.e (k _ _ ⟨q.x,rfl⟩)) fun v s₁ h=>test_last h)
theorem aEe (hG:aY T G){x:Nm}{xp ap p:Pos}{es:List E}(hs:aZ (aF T G) es):aF T G (.get x xp ap es p):=fun σ d h=>oif h fun g h=>aP g fun hf hg=>aB h fun l hl h=>aO h fun r hr A X env s c Q E k=>by
 cases l with
 |nil=>exact no hr
 |cons kd l=>
  exact aB hr fun v hv hr=>by
   cases hG.tget _ _ _ hv with |mk gv t=>
   obtain ⟨a,rfl,t⟩:=t
   obtain ⟨ob,g2,g3,g4⟩:=t.obj
   have go:=c.e.base _ _ g2 id
   refine CL (o:=.gname x xp) (name:=mkS AS) (mB (jF hl)) (by rw [hf]; rfl) (gname hG hg gv c fun pl=>?_)
   rw [aDT]
   refine getMethod_builtin ⟨ob,go,g3⟩ F.plainAttrs_dict F.slot_dict_get F.type_dict_get (fun a' ha'=>by cases ha'; exact ⟨ob,go,g4⟩) (mC hs (jF hl) c (fun zz zz=>qQ _) fun vs s' q=>?_)
   cases l with
   |nil=>
    cases hr
    cases q.r.reps with |mk p q'=>cases q'; exact t.one A X s' _ (c.ext q.x).at p _ E fun v s2 q2=>k v s2 (.pre q.x q2)
   |cons dd l=>cases l with
    |nil=>
     cases hr
     cases q.r.reps with |mk p q'=>cases q' with |mk p2 q'=>cases q'; exact t.two A X s' _ dd _ (c.ext q.x).at p p2 _ E fun v s2 q2=>k v s2 (.pre q.x q2)
    |cons _ _=>exact no hr
end
inductive dR (K:Ks)(env:Env):Addr→Prop
 |loc:dR K env env.locals
 |cell {y:PySem.Str} {a:Addr} (k:dP (nm y) K=some .cell) (l:env.cells.lookup y=some a):dR K env a
section
variable {C:Cx}{K:Ks}{X Y B B':Addr→Prop}{env:Env}{h h':Heap}{σ:Sg}
theorem dR.fra {a:Addr}(h:dR K env a):Fra env a:=by
 cases h with
 |loc=>exact .inl rfl
 |cell k l=>exact .inr ⟨_,l⟩
theorem bJ.keepF {x:PySem.Str}{v:Value}(n:bJ env h x v)(k:∀a o,Fra env a→h.get? a=some o→h'.get? a=some o):bJ env h' x v:=by
 cases n with
 |loc l n e=>obtain ⟨o,es,ep,ho,r⟩:=n; exact .loc l ⟨o,es,ep,k _ o (.inl rfl) ho,r⟩ e
 |cell l c e=>exact .cell l c (e.elim fun o q=>⟨o,k _ o (.inr ⟨_,c⟩) q.1,q.2⟩)
theorem Ns.uniq {a:Addr}{m m':PySem.Str→Option Value}(n:h.Ns a m)(n':h.Ns a m')(x:PySem.Str):m x=m' x:=by
 obtain ⟨o,es,ep,ho,hd,_,hf⟩:=n
 obtain ⟨o',es',ep',ho',hd',_,hf'⟩:=n'
 rw [ho] at ho'; cases ho'
 rw [hd] at hd'; cases hd'
 exact (hf x).symm.trans (hf' x)
theorem bJ.uniq {x:PySem.Str}{v v':Value}(a:bJ env h x v)(b:bJ env h x v'):v=v':=by
 have no1:env.kindOf x=some .local→(env.kindOf x=some .cell∨(env.kindOf x=some .free∧(x==("__classdict__" : PySem.Str))=false))→False:=fun l k=>k.elim (fun k=>by rw [l] at k; cases k) fun k=>by rw [l] at k; cases k.1
 cases a with
 |loc l n e=>cases b with
  |loc l' n' e'=>exact Option.some.inj (e.symm.trans ((Ns.uniq n n' x).trans e'))
  |cell k c e=>exact (no1 l k).elim
 |cell k c e=>cases b with
  |loc l' n' e'=>exact (no1 l' k).elim
  |cell k' c' e'=>
   rw [c] at c'; cases c'
   obtain ⟨o,ho,hd⟩:=e
   obtain ⟨o',ho',hd'⟩:=e'
   rw [ho] at ho'; cases ho'
   rw [hd] at hd'; cases hd'; rfl
theorem aK.fra (e:aK C K X B env h σ){a:Addr}(f:Fra env a):X a:=f.elim (fun q=>q▸e.locX) fun ⟨y,hy⟩=>(e.cellX y a hy).1
theorem aK.nsF (e:aK C K X B env h σ)(k:∀a o,Fra env a→h.get? a=some o→h'.get? a=some o):∃m,h'.Ns env.locals m:=by
 obtain ⟨m,o,es,ep,ho,r⟩:=e.ns
 exact ⟨m,o,es,ep,k _ o (.inl rfl) ho,r⟩
theorem aK.cellF (e:aK C K X B env h σ)(k:∀a o,Fra env a→h.get? a=some o→h'.get? a=some o)(x:PySem.Str)(c:Addr)(hc:env.cells.lookup x=some c):∃v,h'.IsCell c v:=by
 obtain ⟨v,o,q⟩:=(e.cellX x c hc).2.2
 exact ⟨v,o,k c o (.inr ⟨x,hc⟩) q.1,q.2⟩
theorem aK.old (e:aK C K X B env h σ){a:Addr}{o:Obj}(x:X a)(g:C.hb.get? a=some o):False:=by
 have:=e.newB a x
 rw [g] at this
 cases this
theorem aK.move (e:aK C K X B env h σ)(k:aG B h h')(s:∀a o,h.get? a=some o→¬ X a→¬ Y a)(xy:∀a o,h.get? a=some o→X a→¬ B a→Y a)(bY:∀a,B' a→Y a)(bb:∀a o,h.get? a=some o→B' a→B a)
  (nb:∀a,Y a→C.hb.get? a=none) (bnd:∀a,Y a→∃o,h'.get? a=some o):aK C K Y B' env h' σ:=by
 have kF:∀a o,Fra env a→h.get? a=some o→h'.get? a=some o:=fun a o f g=>k a o g (e.fB a f)
 have fY:∀a,Fra env a→Y a∧¬ B' a:=fun a f=>(e.bnd a (e.fra f)).elim fun o g=>⟨xy a o g (e.fra f) (e.fB a f),fun b=>e.fB a f (bb a o g b)⟩
 have fit:Fit X Y h h':=⟨fun a o g n=>k a o g fun b=>n (e.bX a b),s⟩
 obtain ⟨V,q⟩:=e.slots
 have kO:∀x sl,aD x σ=some sl→∀a,aT h sl (V x) a→∀o,h.get? a=some o→h'.get? a=some o:=fun x sl hx a w o g=>k a o g (q.noB x sl hx a w)
 have yO:∀x sl,aD x σ=some sl→∀a,aT h sl (V x) a→Y a∧¬ B' a:=fun x sl hx a w=>by
  obtain ⟨xa,o,g⟩:=(q.ok x sl hx).owned a w
  exact ⟨xy a o g xa (q.noB x sl hx a w),fun b=>q.noB x sl hx a w (bb a o g b)⟩
 have back:∀x sl,aD x σ=some sl→∀a,aT h' sl (V x) a→aT h sl (V x) a:=fun x sl hx a w=>aT.back (q.ok x sl hx) (kO x sl hx) w
 exact ⟨e.fn,e.glo,e.bui,fun a o g zz=>k a o (e.base a o g id) fun b=>e.old (e.bX a b) g,nb,e.nsF kF,(fY _ (.inl rfl)).1,fun x c hc=>⟨(fY c (.inr ⟨x,hc⟩)).1,(e.cellX x c hc).2.1,e.cellF kF x c hc⟩,e.apart,e.kinds,bnd,bY,fun a f=>(fY a f).2,V,
  ⟨fun x sl hx=>(q.at_ x sl hx).keepF kF,fun x sl hx=>(q.ok x sl hx).mono fit fun a w=>⟨(yO x sl hx a w).1,kO x sl hx a w⟩,fun x y sl sl' ne hx hy a wa wb=>q.apart x y sl sl' ne hx hy a (back x sl hx a wa) (back y sl' hy a wb),
   fun x sl hx a w=>q.fra x sl hx a (back x sl hx a w),fun x sl hx a w=>(yO x sl hx a (back x sl hx a w)).2⟩⟩
theorem aK.off (e:aK C K X B env h σ):BW C K X env h σ:=
 ⟨e.fn,e.glo,e.bui,e.base,e.newB,e.ns,e.locX,e.cellX,e.apart,e.kinds,e.bnd,nofun,fun zz zz=>id,e.slots.elim fun V q=>⟨V,q.at_,q.ok,q.apart,q.fra,fun zz zz zz zz zz=>id⟩⟩
theorem aK.sub {σ':Sg}(e:aK C K X B env h σ')(hs:∀x sl,aD x σ=some sl→aD x σ'=some sl):aK C K X B env h σ:=
 ⟨e.fn,e.glo,e.bui,e.base,e.newB,e.ns,e.locX,e.cellX,e.apart,e.kinds,e.bnd,e.bX,e.fB,e.slots.elim fun V q=>⟨V,fun x sl hx=>q.at_ x sl (hs x sl hx),fun x sl hx=>q.ok x sl (hs x sl hx),fun x y sl sl' ne hx hy=>q.apart x y sl sl' ne (hs x sl hx) (hs y sl' hy),fun x sl hx=>q.fra x sl (hs x sl hx),fun x sl hx=>q.noB x sl (hs x sl hx)⟩⟩
theorem nP {x y:Nm}{sl sl':Slot}{G:Prop}(h:aD y (aU x sl' σ)=some sl)(k1:y=x→sl'=sl→G)(k2:y≠x→aD y σ=some sl→G):G:=by
 rw [lW] at h
 by_cases e:y=x
 ·rw [if_pos e] at h; exact k1 e (Option.some.inj h)
 ·rw [if_neg e] at h; exact k2 e h
structure Oth (x:Nm)(env:Env)(h h':Heap):Prop where
 ns:∃m,h'.Ns env.locals m
 cells:∀y c,env.cells.lookup y=some c→∃v,h'.IsCell c v
 oth:∀y v,y≠x→bJ env h (mkS y) v→bJ env h' (mkS y) v
theorem aK.set {x:Nm}{sl':Slot}{v':Value}(e:aK C K X B env h σ)(fit:Fit X Y h h')(xy:∀a,X a→Y a)(nb:∀a,Y a→C.hb.get? a=none)(bnd:∀a,Y a→∃o,h'.get? a=some o)
  (ot:Oth x env h h') (hname:bJ env h' (mkS x) v') (hsl:bU C Y h' sl' v') (own:∀a,aT h' sl' v' a→¬ Fra env a∧¬ B a)
  (hown:∀V,qG C X B env h σ V→∀y sl,y≠x→aD y σ=some sl→∀a,aT h sl (V y) a→(∀o,h.get? a=some o→h'.get? a=some o)∧¬ aT h' sl' v' a):aK C K Y B env h' (aU x sl' σ):=by
 obtain ⟨V,q⟩:=e.slots
 have hown:=hown V q
 have back:∀y sl,y≠x→aD y σ=some sl→∀a,aT h' sl (V y) a→aT h sl (V y) a:=fun y sl ne hy a w=>aT.back (q.ok y sl hy) (fun b wb=>(hown y sl ne hy b wb).1) w
 have Vx:(if x=x then v' else V x)=v':=if_pos rfl
 have Vy:∀y,y≠x→(if y=x then v' else V y)=V y:=fun y ne=>if_neg ne
 refine ⟨e.fn,e.glo,e.bui,fun a o g zz=>fit.k a o (e.base a o g id) fun xa=>e.old xa g,nb,ot.ns,xy _ e.locX,fun y c hc=>⟨xy _ (e.cellX y c hc).1,(e.cellX y c hc).2.1,ot.cells y c hc⟩,e.apart,e.kinds,bnd,fun a b=>xy a (e.bX a b),e.fB,fun y=>if y=x then v' else V y,?_,?_,?_,?_,?_⟩
 ·exact fun y sl hy=>nP hy (fun e1 e2=>by subst e1; rw [Vx]; exact hname) fun ne hy=>by rw [Vy y ne]; exact ot.oth y _ ne (q.at_ y sl hy)
 ·exact fun y sl hy=>nP hy (fun e1 e2=>by subst e1; subst e2; rw [Vx]; exact hsl) fun ne hy=>by rw [Vy y ne]; exact (q.ok y sl hy).mono fit fun a w=>⟨xy a ((q.ok y sl hy).owned a w).1,(hown y sl ne hy a w).1⟩
 ·exact fun y z sl sl2 ne hy0 hz0 a=>nP hy0 (fun e1 e2=>by
   subst e1; subst e2
   exact nP hz0 (fun e1=>absurd e1.symm ne) fun nz hz=>by
    rw [Vx,Vy z nz]
    exact fun wa wb=>(hown z sl2 nz hz a (back z sl2 nz hz a wb)).2 wa) fun ny hy=>nP hz0 (fun e1 e2=>by
   subst e1; subst e2
   rw [Vx,Vy y ny]
   exact fun wa wb=>(hown y sl ny hy a (back y sl ny hy a wa)).2 wb) fun nz hz=>by
   rw [Vy y ny,Vy z nz]
   exact fun wa wb=>q.apart y z sl sl2 ne hy hz a (back y sl ny hy a wa) (back z sl2 nz hz a wb)
 ·exact fun y sl hy a=>nP hy (fun e1 e2=>by subst e1; subst e2; rw [Vx]; exact fun w=>(own a w).1) fun ne hy=>by rw [Vy y ne]; exact fun w=>q.fra y sl hy a (back y sl ne hy a w)
 ·exact fun y sl hy a=>nP hy (fun e1 e2=>by subst e1; subst e2; rw [Vx]; exact fun w=>(own a w).2) fun ne hy=>by rw [Vy y ne]; exact fun w=>q.noB y sl hy a (back y sl ne hy a w)
structure aEf (C:Cx)(K:Ks)(X B:Addr→Prop)(env:Env)(h:Heap)(σ:Sg)(x:Nm)(sl:Slot)(v:Value):Prop where
 n:bJ env h (mkS x) v
 r:bU C X h sl v
 w:∀a,aT h sl v a→X a∧¬ B a
 nf:∀a,aT h sl v a→¬ Fra env a
 put:∀h' sl',aG (aT h sl v) h h'→(∀a,aT h sl v a→∃o,h'.get? a=some o)→bU C X h' sl' v→(∀a,aT h' sl' v a→aT h sl v a)→aK C K X B env h' (aU x sl' σ)
theorem aK.own1 (e:aK C K X B env h σ){x:Nm}{sl:Slot}(hx:aD x σ=some sl):∃v,aEf C K X B env h σ x sl v:=by
 obtain ⟨V,q⟩:=e.slots
 have w:∀a,aT h sl (V x) a→X a∧¬ B a:=fun a w=>⟨((q.ok x sl hx).owned a w).1,q.noB x sl hx a w⟩
 refine ⟨V x,q.at_ x sl hx,q.ok x sl hx,w,q.fra x sl hx,fun h' sl' k ex hs ow=>?_⟩
 have kF:∀a o,Fra env a→h.get? a=some o→h'.get? a=some o:=fun a o f g=>k a o g fun w=>q.fra x sl hx a w f
 have bnd:∀a,X a→∃o,h'.get? a=some o:=fun a xa=>(Classical.em (aT h sl (V x) a)).elim (ex a) fun n=>(e.bnd a xa).elim fun o g=>⟨o,k a o g n⟩
 have hn:∀y v,bJ env h (mkS y) v→bJ env h' (mkS y) v:=fun y v n=>n.keepF kF
 refine e.set (.of (k.mono fun a wa=>(w a wa).1)) (fun zz=>id) e.newB bnd ⟨e.nsF kF,e.cellF kF,fun y v zz=>hn y v⟩ (hn x _ (q.at_ x sl hx)) hs (fun a wa=>⟨q.fra x sl hx a (ow a wa),q.noB x sl hx a (ow a wa)⟩) fun V' q' y sl2 ne hy a wa=>?_
 have hv:V' y=V y:=bJ.uniq (q'.at_ y sl2 hy) (q.at_ y sl2 hy)
 rw [hv] at wa
 exact ⟨fun o g=>k a o g fun wb=>q.apart y x sl2 sl ne hy hx a wa wb,fun wb=>q.apart y x sl2 sl ne hy hx a wa (ow a wb)⟩
end
structure StR (C:Cx)(K:Ks)(X B:Addr→Prop)(env:Env)(s:Shared)(σ:Sg)(s':Shared):Prop where
 x:Ext (dR K env) s s'
 e:aK C K X B env s'.heap σ
section
variable {M:Model}{A:Around}{s:Shared}{C:Cx}{K:Ks}{X Y B:Addr→Prop}{env:Env}{σ:Sg}{x:Nm}{v:Value}{sl:Slot}
structure New (C:Cx)(X Y B:Addr→Prop)(env:Env)(h:Heap)(σ:Sg)(x:Nm)(sl:Slot)(v:Value):Prop where
 xy:∀a,X a→Y a
 nf:∀a o,h.get? a=some o→¬ X a→¬ Y a
 nb:∀a,Y a→C.hb.get? a=none
 bnd:∀a,Y a→∃o,h.get? a=some o
 ok:bU C Y h sl v
 own:∀a,aT h sl v a→¬ Fra env a∧¬ B a
 oth:∀V,qG C X B env h σ V→∀y sl',y≠x→aD y σ=some sl'→∀a,aT h sl' (V y) a→¬ aT h sl v a
theorem New.fz (e:aK C K X B env s.heap σ){d:PV}(hr:Rep C X s.heap d v):New C X X B env s.heap σ x (.fz d) v:=⟨fun zz=>id,fun zz zz zz=>id,e.newB,e.bnd,hr,fun zz w=>w.elim,fun zz zz zz zz zz zz zz zz=>id⟩
theorem New.fin {tk:Nat}(q:New C X Y B env s.heap σ x sl v)(e:aK C K X B env s.heap σ){h':Heap}{b:Addr}(hb:dR K env b)(hs:Heap.SameBut b s.heap h')(ex:∃o,h'.get? b=some o)(ot:Oth x env s.heap h')(hn:bJ env h' (mkS x) v):StR C K Y B env s (aU x sl σ) {s with heap:=h',toks:=tk}:=by
 have k:∀a o,¬ Fra env a→s.heap.get? a=some o→h'.get? a=some o:=fun a o nf g=>(hs.2 a fun e=>nf (e▸hb.fra)).trans g
 have kX:aG X s.heap h':=fun a o g nx=>k a o (fun f=>nx (e.fra f)) g
 have back:∀a,aT h' sl v a→aT s.heap sl v a:=fun a w=>aT.back q.ok (fun b wb o g=>k b o (q.own b wb).1 g) w
 refine ⟨⟨fun a o g n=>(hs.2 a fun e=>n (e▸hb)).trans g,rfl,rfl⟩,e.set ⟨kX,q.nf⟩ q.xy q.nb (fun a ya=>?_) ot hn (q.ok.mono ⟨fun a o g ny=>kX a o g fun xa=>ny (q.xy a xa),fun zz zz zz=>id⟩ fun a w=>⟨(q.ok.owned a w).1,fun o g=>k a o (q.own a w).1 g⟩) (fun a w=>q.own a (back a w)) fun V sv y sl' ne hy a w=>⟨fun o g=>k a o (sv.fra y sl' hy a w) g,fun w'=>q.oth V sv y sl' ne hy a w (back a w')⟩⟩
 by_cases h:a=b
 ·exact h▸ex
 ·exact (q.bnd a ya).elim fun o g=>⟨o,(hs.2 a h).trans g⟩
theorem fL (e:aK C K X B env s.heap σ)(hs:dX K x=true)(q:New C X Y B env s.heap σ x sl v):Tr M A (storeName env (mkS x) v) s (fun zz s'=>StR C K Y B env s (aU x sl σ) s'):=fun Q E k=>by
 have loc:∀y c,env.cells.lookup y=some c→c≠env.locals:=fun y c hc=>(e.cellX y c hc).2.1
 have hkk:=e.kinds x
 cases hk:dP x K with
 |none=>rw [dX,hk] at hs; cases hs
 |some kd=>
  have hkk:=hkk kd hk
  rw [dX,hk] at hs
  have ne_:∀{y},y≠x→mkS y≠mkS x:=fun ne h=>ne (qF h)
  cases kd with
  | «local»=>
   obtain ⟨m,hm⟩:=e.ns
   refine wpAny_storeName_local hkk hm (fun h' hn' hs'=>k () _ ?_) (by rw [e.fn]; rfl)
   refine q.fin e .loc hs' (let ⟨o,_,_,ho,_⟩:=hn'; ⟨o,ho⟩) ⟨⟨_,hn'⟩,fun y c hc=>(e.cellX y c hc).2.2.elim fun v0 hv=>⟨v0,hv.sameBut hs' (loc y c hc)⟩,fun y v ne n=>?_⟩ (.loc hkk hn' (if_pos rfl))
   cases n with
   |loc l n' ev=>exact .loc l hn' ((if_neg (ne_ ne)).trans ((Ns.uniq hm n' _).trans ev))
   |cell l c hc=>exact .cell l c (hc.sameBut hs' (loc _ _ c))
  |cell=>
   obtain ⟨hkc,c,hc⟩:=hkk
   obtain ⟨v0,hv0⟩:=(e.cellX _ c hc).2.2
   refine wpAny_storeName_cell e.fn hkc hc hv0 fun h' hc' hs'=>k () _ ?_
   have lc:=loc _ _ hc
   refine q.fin e (.cell (y:=mkS x) hk hc) hs' (let ⟨o,ho,_⟩:=hc'; ⟨o,ho⟩) ⟨e.ns.elim fun m hm=>⟨m,hm.sameBut hs' lc.symm⟩,fun y c2 hc2=>?_,fun y v ne n=>?_⟩ (.cell (.inl hkc) hc hc')
   ·by_cases h:c2=c
    ·exact ⟨_,h▸hc'⟩
    ·exact (e.cellX y c2 hc2).2.2.elim fun v2 hv2=>⟨v2,hv2.sameBut hs' h⟩
   ·cases n with
    |loc l n' ev=>exact .loc l (n'.sameBut hs' lc.symm) ev
    |cell l c2 hv=>exact .cell l c2 (hv.sameBut hs' fun h=>ne_ ne (e.apart _ _ _ (h▸c2) hc))
  |_=>cases hs
end
inductive RQ (C:Cx)(X:Addr→Prop)(h:Heap)(t:Tg)(d:PV)(v:Value):Prop
 |fz (r:Rep C X h d v)
 |tup {ts:List NP} {k:Nat} {p:Pos} {ds:List PV} {a:Addr} {its:List Value} {n:Nat} (e:t=.tup ts k p) (e2:d=.tuple ds) (e3:v=.ref a) (g:h.get? a=some (aW its n)) (r:Reps C X h ds its)
section
variable {prog:Program}{w:World}{A:Around}{s:Shared}{C:Cx}{K:Ks}{X B:Addr→Prop}{env:Env}{σ:Sg}
theorem StR.trans {s₁ s₂:Shared}{σ₁ σ₂:Sg}(a:StR C K X B env s σ₁ s₁)(b:StR C K X B env s₁ σ₂ s₂):StR C K X B env s σ₂ s₂:=⟨a.x.trans b.x,b.e⟩
theorem qR:∀ts:List NP,(assignEach (ts.map NP.b) env).length=ts.length∧(assignEach (ts.map NP.b) env).findIdx? (·.1)=none
 |[]=>⟨rfl,rfl⟩
 |t::r=>⟨congrArg (·+1) (qR r).1,by
   show List.findIdx? (·.1) ((false,_)::assignEach (r.map NP.b) env)=none
   rw [List.findIdx?_cons,(qR r).2]
   rfl⟩
theorem CM:∀{ts:List NP} {ds:List PV} {σ σ':Sg},nE ts ds σ=some σ'→ts.length=ds.length
 |[],ds,σ,σ',h=>oif h fun c h=>by cases ds <;> first |rfl |cases c
 |t::ts,[],σ,σ',h=>no h
 |t::ts,d::ds,σ,σ',h=>congrArg (·+1) (CM (ts:=ts) (ds:=ds) h)
theorem RR:∀{ts:List NP} {ds:List PV} {vs:List Value} {σ σ':Sg} {s:Shared},vT K ts=true→nE ts ds σ=some σ'→aK C K X B env s.heap σ→Reps C X s.heap ds vs →
  Tr (model prog w) A (assignInOrder ((assignEach (ts.map NP.b) env).map (·.2)) vs) s (fun zz s'=>StR C K X B env s σ' s')
 |[],ds,vs,σ,σ',s,hn,hb,e,r=>oif hb fun c hb=>aQ (G:=fun σ'=>Tr (model prog w) A _ s fun zz s'=>StR C K X B env s σ' s') hb fun Q E k=>by
  cases ds with
  |nil=>cases r; exact wpAny_pure (k _ _ ⟨Ext.refl _ _,e⟩)
  |cons d ds=>cases c
 |t::ts,[],vs,σ,σ',s,hn,hb,e,r=>no hb
 |t::ts,d::ds,vs,σ,σ',s,hn,hb,e,r=>fun Q E k=>aP hn fun h1 h2=>by
  cases r with | @mk v l p q=>
  show wpAny _ _ (do holding l (assign (.Name (mkS t.1) t.2) env v); assignInOrder ((assignEach (ts.map NP.b) env).map (·.2)) l) _ _ s
  refine wpAny_bind (wpAny_holding (wpAny_assign_Name (fL e h1 (.fz e p) _ E fun zz s₁ q1=>?_)))
  exact RR h2 hb q1.e (Reps.keep (.of (q1.x.keep.mono fun a f=>e.fra f.fra)) ds q) _ E fun zz s₂ q2=>k _ _ (q1.trans q2)
theorem RS {it t:Addr}{items:Array Value}(hne:t≠it){E:Value→Shared→Prop}:∀(n i:Nat) (s:Shared) (Q:List Value→Shared→Prop),s.heap.IsListIter it t i→s.heap.IsList t items→i+n≤items.size →
  (∀h',h'.IsListIter it t (i+n)→Heap.SameBut it s.heap h'→Q ((items.toList.drop i).take n) {s with heap:=h'})→wpAny (model prog w) A (draw (.ref it) n) Q E s
 |0,i,s,Q,hit,_,_,hQ=>wpAny_pure (hQ s.heap hit (Heap.SameBut.refl ..))
 |n+1,i,s,Q,hit,ht,hle,hQ=>by
  have hlt:i<items.size:=Nat.lt_of_lt_of_le (Nat.lt_add_of_pos_right (Nat.succ_pos n)) hle
  refine wpAny_bind (wpAny_pyNext_list_item hit ht (Array.getElem?_eq_getElem hlt) fun h₁ hit₁ hs₁=>?_)
  refine wpAny_bind (wpAny_holding (RS hne n (i+1) _ _ hit₁ (ht.extBut hs₁.extBut hne) (by rw [Nat.succ_add_eq_add_succ]; exact hle) fun h₂ hit₂ hs₂=>wpAny_pure ?_))
  have:=hQ h₂ (by rw [←Nat.succ_add_eq_add_succ]; exact hit₂) (hs₁.trans hs₂)
  rw [List.drop_eq_getElem_cons (show i<items.toList.length from hlt),List.take_succ_cons] at this
  exact this
theorem aEg {t:Addr}{items:Array Value}{targets:List (Bool × (Value→Sem Unit))}{Q:Unit→Shared→Prop}{E:Value→Shared→Prop}(hh:A.handled=none)(ht:s.heap.IsList t items)
  (hn:targets.length=items.size) (hstar:targets.findIdx? (·.1)=none)
  (h:∀h',Heap.ExtBut s.heap.objs.size s.heap h'→wpAny (model prog w) A (assignInOrder (targets.map (·.2)) items.toList) Q E {s with heap:=h'}) :
  wpAny (model prog w) A (unpack (.ref t) targets) Q E s:=by
 have hlt:t≠s.heap.objs.size:=by obtain ⟨o,ho,_⟩:=ht; exact Nat.ne_of_lt (Heap.lt_size ho)
 unfold unpack
 rw [hn,hstar]
 refine wpAny_bind (wpAny_holding ?_)
 unfold unpackItems
 refine wpAny_bind ?_
 unfold notIterableAtAll
 refine wpAny_bind (wpAny_specialOf ht.typeIs slot_list_iter.lookup ?_)
 refine wpAny_pure ?_
 show wpAny _ _ (ite (false=true) _ _) _ _ _
 rw [if_neg Bool.false_ne_true]
 refine wpAny_bind (wpAny_holding (wpAny_pyIter_list ht ?_))
 refine wpAny_bind (wpAny_holding (RS hlt items.size 0 _ _ ⟨_,Heap.get?_push_size _ rfl,rfl,rfl⟩ (ht.push _) (by rw [Nat.zero_add]; exact Nat.le_refl _) fun h₁ hit₁ hs₁=>?_))
 rw [List.drop_zero,List.take_of_length_le (show items.toList.length≤items.size from Nat.le_refl _)]
 show wpAny _ _ (ite (items.size<items.size) _ _) _ _ _
 rw [if_neg (Nat.lt_irrefl _)]
 refine wpAny_bind (wpAny_holding (wpAny_pyNext_list_end hh hit₁ ((ht.push _).extBut hs₁.extBut hlt) (by rw [Nat.zero_add]; exact Array.getElem?_eq_none (Nat.le_refl _)) fun h₂ he₂=>?_))
 show wpAny _ _ (ite (false=true) _ _) _ _ _
 rw [if_neg Bool.false_ne_true]
 exact wpAny_pure (h h₂ fun b o hb e=>he₂ b o hb (hs₁.extBut b o hb (Heap.get?_push_of_some _ e)))
theorem RT {h':Heap}(hs:Heap.ExtBut s.heap.objs.size s.heap h'):Ext NoX s {s with heap:=h'}:=
 ⟨fun a o e zz=>hs a o (Nat.ne_of_lt (Heap.lt_size e)) e,rfl,rfl⟩
theorem RU {ts:List NP}{ds:List PV}{its:List Value}{σ':Sg}{Q:Unit→Shared→Prop}(hn:vT K ts=true)(hb:nE ts ds σ=some σ')(e:aK C K X B env s.heap σ)(r:Reps C X s.heap ds its)(k:∀s',StR C K X B env s σ' s'→Q () s'){E:Value→Shared→Prop}{h':Heap}(hs:Heap.ExtBut s.heap.objs.size s.heap h'):
  wpAny (model prog w) A (assignInOrder ((assignEach (ts.map NP.b) env).map (·.2)) its) Q E {s with heap:=h'}:=
 have x:=RT hs
 RR hn hb (e.keep x.keep) (Reps.keep (.nox x.keep) ds r) _ E fun zz s₂ q=>k _ ⟨x.any.trans q.x,q.e⟩
theorem RV (hh:A.handled=none){ts:List NP}{ds:List PV}{its:List Value}{n k:Nat}{p:Pos}{a:Addr}{σ':Sg}(hn:vT K ts=true)(hb:nE ts ds σ=some σ')(e:aK C K X B env s.heap σ)(g:s.heap.get? a=some (aW its n))(r:Reps C X s.heap ds its):
  Tr (model prog w) A (assign (Tg.tup ts k p).b env (.ref a)) s (fun zz s'=>StR C K X B env s σ' s'):=fun Q E k=>
 wpAny_assign_Tuple hh ⟨_,g,rfl,_,rfl⟩ ((qR ts).1.trans ((CM hb).trans r.length)) (qR ts).2 fun h' hs=>RU hn hb e r (k ()) hs
theorem CN (hh:A.handled=none){t:Tg}{d:PV}{v:Value}{σ':Sg}(hb:bK K t d σ=some σ')(e:aK C K X B env s.heap σ)(hi:RQ C X s.heap t d v):
  Tr (model prog w) A (assign t.b env v) s (fun zz s'=>StR C K X B env s σ' s'):=by
 cases t with
 |nm x p=>
  cases hi with
  |fz r=>exact oif hb fun c hb=>aQ (G:=fun σ'=>Tr (model prog w) A _ s fun zz s'=>StR C K X B env s σ' s') hb fun Q E k=>wpAny_assign_Name (fL e c (.fz e r) _ E k)
  |tup e=>cases e
 |tup ts k p=>
  exact aB hb fun l hl hb1=>oif hb1 fun c hb2=>by
   cases hi with
   |fz r=>cases d with
    |tuple xs=>cases hl; cases r with |mk x g q=>exact RV hh c hb2 e g q
    |list xs=>
     cases hl
     cases r with |mk x g q=>
     intro Q E k
     show wpAny _ _ (assign (.Tuple (ts.map NP.b) _ p) env _) _ _ _
     rw [arm_assign_Tuple]
     exact wpAny_bind (wpAny_standAt (aEg hh ⟨_,g,rfl,_,rfl⟩ ((qR ts).1.trans ((CM hb2).trans q.length)) (qR ts).2 fun h' hs=>RU c hb2 e q (k ()) hs))
    |_=>exact no hl
   |tup e1 e2 e3 g r=>cases e1; cases e2; cases e3; cases hl; exact RV hh c hb2 e g r
end
structure aEh (C:Cx)(t:Tg)(F:Addr→Prop)(St:(Addr→Prop)→List PV→Heap→Prop)(X:Addr→Prop)(d:PV)(l:List PV)(v:Value)(s s':Shared):Prop where
 x:Ext F s s'
 st:St X l s'.heap
 i:RQ C X s'.heap t d v
structure aEi (F:Addr→Prop)(s:Shared)(r:Option Value)(s':Shared):Prop where
 e:r=none
 x:Ext F s s'
structure mD (M:Model)(A:Around)(C:Cx)(t:Tg)(it:Value)(F:Addr→Prop)(St:(Addr→Prop)→List PV→Heap→Prop):Prop where
 keep:∀X Y l h h',St X l h→Fit X Y h h'→(∀a o,F a→h.get? a=some o→h'.get? a=some o)→St Y l h'
 next:∀X d l s,St X (d::l) s.heap→(∀a,F a→X a)→∀Q E,(∀v s₁,Tr M A (letOwnedTupleGo t.b it v) s₁ (fun zz s₂=>aEh C t F St X d l v s s₂)→Q (some v) s₁)→wpAny M A (pyNext it) Q E s
 done:∀X s,St X [] s.heap→(∀a,F a→X a)→Tr M A (pyNext it) s (aEi F s)
 self:∀X l s Q E,St X l s.heap→Q it s→wpAny M A (pyIter it) Q E s
 live:∀X l h,St X l h→∀a,F a→∃o,h.get? a=some o
inductive jS (M:Model)(A:Around)(C:Cx)(X:Addr→Prop)(t:Tg)(xs:List PV)(s:Shared)(it:Value)(s':Shared):Prop
 |mk {F:Addr→Prop} {St:(Addr→Prop)→List PV→Heap→Prop} (x:Ext NoX s s') (ok:mD M A C t it F St) (new:∀a,F a→s.heap.get? a=none) (st:St (fun a=>X a∨F a) xs s'.heap):jS M A C X t xs s it s'
theorem jS.pre {M:Model}{A:Around}{C:Cx}{X:Addr→Prop}{t:Tg}{xs:List PV}{s s₁ s':Shared}{it:Value}(x:Ext NoX s s₁)(q:jS M A C X t xs s₁ it s'):jS M A C X t xs s it s':=by
 cases q with | @mk F St x' ok new st=>
 refine ⟨x.trans x',ok,fun a f=>?_,st⟩
 cases g:s.heap.get? a with
 |none=>rfl
 |some o=>exact absurd ((x.keep a o g id).symm.trans (new a f)) nofun
inductive WSt (C:Cx)(xs:List PV)(fp wr:List Addr)(n:Nat)(P:Nat→Value→Prop)(St₀:Nat→Heap→Prop)(X:Addr→Prop)(l:List PV)(h:Heap):Prop
 |mk {i:Nat} (hi:i≤n) (hl:l=xs.drop i) (st:St₀ i h) (r:∀j v d,P j v→xs[j]?=some d→Rep C X h d v) (f:∀a∈fp,a∉wr→¬ X a∧∃o,h.get? a=some o):WSt C xs fp wr n P St₀ X l h
section
variable {prog:Program}{w:World}{A:Around}{C:Cx}{X:Addr→Prop}{s:Shared}{t:Tg}
theorem mD.of {I:Addr}{fp wr:List Addr}{n:Nat}{P:Nat→Value→Prop}{St₀:Nat→Heap→Prop}(W:Walks prog w A I fp wr n P St₀){xs:List PV}(hn:xs.length=n)
  (hlive:∀i h,St₀ i h→∀a∈wr,∃o,h.get? a=some o) (hgo:∀i (s:Shared) v (Q:Unit→Shared→Prop) E,P i v→St₀ (i+1) s.heap→Q () s→wpAny (model prog w) A (letOwnedTupleGo t.b (.ref I) v) Q E s) :
  mD (model prog w) A C t (.ref I) (fun a=>a∈wr) (WSt C xs fp wr n P St₀) where
 keep:=fun X Y l h h' st fit kF=>by
  cases st with |mk hi hl st hr hf=>
  refine ⟨hi,hl,W.frame _ h h' st fun b hb o ho=>?_,fun j v d hP hd=>Rep.keep fit d (hr j v d hP hd),fun a ha hna=>?_⟩
  ·by_cases hbw:b∈wr
   ·exact kF b o hbw ho
   ·exact fit.k b o ho (hf b hb hbw).1
  ·obtain ⟨h1,o,ho⟩:=hf a ha hna
   exact ⟨fit.s a o ho h1,o,fit.k a o ho h1⟩
 next:=fun X d l s st hFX Q E k=>by
  cases st with | @mk i hi hl st hr hf=>
  have hlt:i<xs.length:=Nat.lt_of_not_le fun h=>by rw [List.drop_eq_nil_of_le h] at hl; cases hl
  rw [List.drop_eq_getElem_cons hlt] at hl
  injection hl with hd hl
  refine W.item i s _ E (hn▸hlt) st fun v h' tk hP st' hk=>k v _ fun Q' E' k'=>hgo i _ v _ E' hP st' (k' _ _ ?_)
  have kF:aG (fun a=>a∈wr) s.heap h':=fun a o ho na=>hk a o na ho
  have fX:=Fit.of (kF.mono hFX)
  exact ⟨⟨kF,rfl,rfl⟩,⟨hn▸hlt,hl,st',fun j v d hP hd=>Rep.keep fX d (hr j v d hP hd),fun a ha hna=>⟨(hf a ha hna).1,(hf a ha hna).2.elim fun o ho=>⟨o,hk a o hna ho⟩⟩⟩,.fz (Rep.keep fX d (hr i v d hP (by rw [hd]; exact List.getElem?_eq_getElem hlt)))⟩
 done:=fun X s st zz Q E k=>by
  cases st with | @mk i hi hl st hr hf=>
  have hge:i=n:=Nat.le_antisymm hi (hn▸List.drop_eq_nil_iff.mp hl.symm)
  subst hge
  exact W.done s _ E st fun h' tk hk=>k _ _ ⟨rfl,⟨fun a o ho na=>hk a o na ho,rfl,rfl⟩⟩
 self:=fun X l s Q E st k=>by
  cases st with |mk hi hl st hr hf=>exact W.self _ s _ E st k
 live:=fun X l h st a ha=>by
  cases st with |mk hi hl st hr hf=>exact hlive _ h st a ha
theorem CP {it v:Value}{M:Model}{Q:Unit→Shared→Prop}{E:Value→Shared→Prop}(hv:∀a,v≠.ref a)(h:Q () s):wpAny M A (letOwnedTupleGo t.b it v) Q E s:=by
 cases t with
 |nm x p=>exact wpAny_pure h
 |tup ts k p=>cases it with
  |ref a=>cases v with
   |ref b=>exact absurd rfl (hv b)
   |_=>exact wpAny_pure h
  |_=>exact wpAny_pure h
theorem wU {o:Obj}{fp:List Addr}{n:Nat}{P:Nat→Value→Prop}{St₀:Nat→Heap→Prop}(W:Walks prog w A s.heap.objs.size fp [s.heap.objs.size] n P St₀){xs:List PV}(hn:xs.length=n)(hlive:∀i h,St₀ i h→∃o,h.get? s.heap.objs.size=some o)
  (hgo:∀i (s':Shared) v (Q:Unit→Shared→Prop) E,P i v→St₀ (i+1) s'.heap→Q () s'→wpAny (model prog w) A (letOwnedTupleGo t.b (.ref s.heap.objs.size) v) Q E s') (st:St₀ 0 (s.heap.push o))
  (r:∀Y,(∀a o,s.heap.get? a=some o→¬ X a→¬ Y a)→∀j v d,P j v→xs[j]?=some d→Rep C Y (s.heap.push o) d v) (f:∀a∈fp,a≠s.heap.objs.size→¬ X a∧∃ob,s.heap.get? a=some ob):jS (model prog w) A C X t xs s (.ref s.heap.objs.size) {s with heap:=s.heap.push o}:=by
 have e1:∀{a:Addr},a∈[s.heap.objs.size]→a=s.heap.objs.size:=fun h=>List.mem_singleton.mp h
 have nx:∀a o,s.heap.get? a=some o→¬ X a→¬ (X a∨a∈[s.heap.objs.size]):=fun a o g n h=>h.elim n fun h=>Nat.lt_irrefl _ (e1 h▸Heap.lt_size g)
 exact ⟨Ext.pushed _ _ _,mD.of W hn (fun i h st a ha=>e1 ha▸hlive i h st) hgo,fun a ha=>jE (Nat.le_of_eq (e1 ha).symm),⟨Nat.zero_le _,rfl,st,r _ nx,fun a ha na=>by
  obtain ⟨h1,ob,h2⟩:=f a ha fun h=>na (List.mem_singleton.mpr h)
  exact ⟨nx a ob h2 h1,ob,Heap.get?_push_of_some _ h2⟩⟩⟩
theorem aEj {d:PV}{v:Value}{xs:List PV}(hh:A.handled=none)(hi:AZ d=some xs)(q:Rep C X s.heap d v):Tr (model prog w) A (pyIter v) s (jS (model prog w) A C X t xs s):=fun Q E k=>by
 cases d with
 |list ys=>
  cases hi
  cases q with | @mk a its n xa g r=>
  have hl:s.heap.IsList a its.toArray:=⟨_,g,rfl,n,rfl⟩
  refine wpAny_pyIter_list hl (k _ _ (wU (Walks.list hh s.heap.objs.size a (Nat.ne_of_lt (Heap.lt_size g)) its.toArray) r.length (fun i h st=>st.1.elim fun o ho=>⟨o,ho.1⟩) (fun i s' v Q E' hP st h=>?_) ⟨⟨_,Heap.get?_push_size _ rfl,rfl,rfl⟩,hl.push _⟩ (fun Y hY j v d hP hd=>?_) fun b hb nb=>?_))
  ·cases t with
   |nm x p=>exact wpAny_pure h
   |tup ts k p=>cases v with
    |ref b=>exact wpAny_letOwnedTupleGo_listiter st.1 h
    |_=>exact wpAny_pure h
  ·obtain ⟨v',hv',hr⟩:=r.get j d hd
   cases hv'.symm.trans ((List.getElem?_toArray).symm.trans hP)
   exact Rep.keep ⟨aG.push X _ _,hY⟩ d hr
  ·cases hb with
   |head=>exact absurd rfl nb
   |tail _ hb=>exact List.mem_singleton.mp hb▸⟨xa,_,g⟩
 |str x=>
  cases hi
  cases q with |mk t0=>
  have sgn:∀(ob:Obj) (Y:Addr→Prop),(∀a o,s.heap.get? a=some o→¬ X a→¬ Y a)→∀(j:Nat) (v:Value) (d:PV),SignAt ⟨x.toArray⟩ j v→(x.map fun c=>PV.str [c])[j]?=some d→Rep C Y (s.heap.push ob) d v:=fun ob Y zz j v d hP hd=>by
   obtain ⟨c,u,hc,rfl⟩:=hP
   rw [List.getElem?_map] at hd
   exact aO (G:=fun d=>Rep C Y (s.heap.push ob) d (.str ⟨#[c]⟩ u)) hd fun c' hc'=>by
    cases hc'.symm.trans ((List.getElem?_toArray).symm.trans hc)
    exact .mk u
  refine wpAny_pyIter_strU ?_
  cases ha:(⟨x.toArray⟩:PySem.Str).cps.all (·<128) with
  |false=>
   simp only [strIterType,ha,Bool.false_eq_true,if_false]
   refine k _ _ (wU (Walks.strWide hh s.heap.objs.size ⟨x.toArray⟩ t0) (List.length_map _) (fun i h st=>st.elim fun o ho=>⟨o,ho.1⟩) (fun i s' v Q E' hP st h=>?_) ⟨_,Heap.get?_push_size _ rfl,rfl,rfl⟩ (sgn _) fun b hb nb=>absurd (List.mem_singleton.mp hb) nb)
   obtain ⟨c,u,_,rfl⟩:=hP
   exact CP (fun zz=>nofun) h
  |true=>
   simp only [strIterType,ha,if_true]
   refine k _ _ (wU (Walks.strAscii hh s.heap.objs.size ⟨x.toArray⟩ t0) (List.length_map _) (fun i h st=>st.elim fun o ho=>⟨o,ho.1⟩) (fun i s' v Q E' hP st h=>?_) ⟨_,Heap.get?_push_size _ rfl,rfl,rfl⟩ (sgn _) fun b hb nb=>absurd (List.mem_singleton.mp hb) nb)
   obtain ⟨c,u,_,rfl⟩:=hP
   exact CP (fun zz=>nofun) h
 |_=>exact no hi
end
theorem wV:∀(n:Nat) (a c:Int) (j:Nat) (d:PV),(pU a c n)[j]?=some d→d=.int (a+j*c)
 |0,_,_,_,_,h=>no h
 |n+1,a,c,0,d,h=>(Option.some.inj h).symm.trans (congrArg PV.int (by rw [Int.ofNat_zero,Int.zero_mul,Int.add_zero]))
 |n+1,a,c,j+1,d,h=>(wV n (a+c) c j d h).trans (congrArg PV.int (by rw [Int.natCast_succ,Int.add_mul,Int.one_mul,Int.add_assoc,Int.add_comm c]))
theorem tM:∀(n:Nat) (a c:Int),(pU a c n).length=n
 |0,_,_=>rfl
 |n+1,a,c=>congrArg (·+1) (tM n (a+c) c)
structure CQ (a b c:Int)(xs:List PV)(n:Nat):Prop where
 sm:Builtin.Range.small a b c=true
 nz:c≠0
 lg:c.natAbs.log2<9000
 sz:Builtin.Range.rangeSize a b c=n
 le:n≤16777216
 e:xs=pU a c n
theorem CR {a b c:Int}{xs:List PV}(h:vO a b c=some xs):∃n,CQ a b c xs n:=oif h fun k h=>aP k fun k k5=>aP k fun k k4=>aP k fun k k3=>aP k fun k1 k2=>by
 have h4:=Int.toNat_of_nonneg (dec k4)
 exact ⟨_,k1,BY (dZ k2),dec k3,h4.symm,Int.ofNat_le.mp (h4.symm▸dec k5),(Option.some.inj h).symm⟩
inductive CS (xs:List PV)(s:Shared)(v:Value)(s':Shared):Prop
 |mk {ra:Addr} {a b c:Int} {t u z:Tok} {n:Nat} (x:Ext NoX s s') (e:v=.ref ra) (g:IsRange s'.heap ra a b c t u z) (p:CQ a b c xs n):CS xs s v s'
section
variable {T:Th}{G:Gl}{σ:Sg}{A:Around}{X:Addr→Prop}{env:Env}{s:Shared}{t:Tg}{xs:List PV}
theorem aEk {prog:Program}{w:World}{ns:List Int}{its:List Value}(h:PL ns=some xs)(r:IntsAre its ns):Tr (model prog w) A (PySem.call (.type "range") its) s (CS xs s):=fun Q E k=>by
 cases r with
 |nil=>exact no h
 |cons a t r=>cases r with
  |nil=>exact (CR h).elim fun n p=>call_range_1 (k _ _ (.mk ⟨aG.push _ _ _,rfl,rfl⟩ rfl (IsRange.new _ _ _ _ _ _ _) p))
  |cons b u r=>cases r with
   |nil=>exact (CR h).elim fun n p=>call_range_2 (k _ _ (.mk ⟨aG.push _ _ _,rfl,rfl⟩ rfl (IsRange.new _ _ _ _ _ _ _) p))
   |cons c z r=>cases r with
    |nil=>exact (CR h).elim fun n p=>call_range_3 p.nz (k _ _ (.mk ⟨aG.push _ _ _,rfl,rfl⟩ rfl (IsRange.new _ _ _ _ _ _ _) p)) (.inl (PyProof.noPylong_of_log2 p.lg))
    |cons d y r=>exact no h
theorem CT (hG:aY T G){fp p:Pos}{es:List E}(hs:aZ (aF T G) es)(hg:cC G.sc fG=true)(h:vP (cV (evs G es σ))=some xs)(c:bE T G σ A X env s):
  Tr (model T.prog T.w) A (eval (.Call (.Name (mkS fG) fp) (bs es) [] p) env) s (CS xs s):=aB h fun l hl h=>aB h fun ns hn h Q E k=>
 Call_ (gname hG hg (hG.bval (fG,_) (.head _)) c (mC hs (jF hl) c (fun zz zz=>nO _) fun vs s' q=>aEk h ((lZ hn).2 q.r.reps) _ E fun v s2 r=>k v s2 (by cases r with |mk x e g p=>exact ⟨q.x.trans x,e,g,p⟩)))
theorem aEl {prog:Program}{w:World}{C:Cx}{r:Addr}{a b c:Int}{tk u v:Tok}{n:Nat}(hh:A.handled=none)(p:CQ a b c xs n)(g:IsRange s.heap r a b c tk u v):
  Tr (model prog w) A (pyIter (.ref r)) s (jS (model prog w) A C X t xs s):=fun Q E k=>by
 refine wpAny_pyIter_range g p.sm (k _ _ (wU (Walks.range hh s.heap.objs.size a c n) (p.e▸tM n a c) (fun i h st=>⟨_,st⟩) (fun i s' v Q E' hP st h=>?_) ?_ (fun Y zz j v d hP hd=>?_) fun b hb nb=>absurd (List.mem_singleton.mp hb) nb))
 ·obtain ⟨u,rfl⟩:=hP
  exact CP (fun zz=>nofun) h
 ·show _=_
  rw [Heap.get?_push_size _ rfl,p.sz]
  simp
 ·obtain ⟨u,rfl⟩:=hP
  rw [p.e] at hd
  rw [wV n a c j d hd]
  exact .mk u
theorem Reps.of_get {C:Cx}{h:Heap}:∀{xs:List PV} {its:List Value},xs.length=its.length→(∀(j:Nat) (d:PV) (v:Value),xs[j]?=some d→its[j]?=some v→Rep C X h d v)→Reps C X h xs its
 |[],its,hl,_=>List.length_eq_zero_iff.mp hl.symm
 |d::xs,[],hl,_=>nomatch hl
 |d::xs,v::its,hl,hr=>⟨hr 0 d v rfl rfl,Reps.of_get (Nat.succ.inj hl) fun j d v hd hv=>hr (j+1) d v hd hv⟩
theorem aEm (hG:aY T G){fp gp rp p:Pos}{es:List E}(hs:aZ (aF T G) es):aF T G (.lrange fp gp es rp p):=fun σ d h=>oif h fun g h=>aP g fun g1 g2=>aB h fun xs hx h=>wR (G:=qI T G (.lrange fp gp es rp p) σ) h fun A X env s c Q E k=>by
 refine Call_ (gname hG g1 (hG.bval (fH,_) (.tail _ (.head _))) c (tJ rfl (tK _ rfl (wpAny_items_cons (CT hG hs g2 hx c _ E fun v s₁ q=>wpAny_items_nil ⟨nO _,?_⟩) rfl))))
 cases q with | @mk ra a b c' t u z n x e g p=>
 cases e
 refine call_list_range (hG.bud A c.pa).handled g p.sm p.sz p.le fun h' tk acc' n' hk hl hi=>k _ _ (.pre x ⟨qP hk,.mk (c.ext x).e.newX hl (Reps.of_get ?_ fun j d v hd hv=>?_)⟩)
 ·rw [p.e,tM]; exact hi.1.symm
 ·rw [p.e] at hd
  rw [wV n a c' j d hd]
  obtain ⟨t,rfl⟩:=hi.2 j v (Array.getElem?_toList.symm.trans hv)
  exact .mk t
noncomputable def nQ (T:Th)(G:Gl)(it:It)(t:Tg):Prop:=∀σ xs,tC G it σ=some xs→∀A X env s,bE T G σ A X env s→∀Q E,(∀v s₁,Tr (model T.prog T.w) A (pyIter v) s₁ (jS (model T.prog T.w) A T.C X t xs s)→Q v s₁)→wpAny (model T.prog T.w) A (eval it.b env) Q E s
theorem RW (hG:aY T G){e:E}(he:aF T G e):nQ T G (.val e) t:=fun σ xs h A X env s c Q E k=>aB h fun d hd h=>he σ _ (bR hd) A X env s c Q E fun v s₁ q=>k v s₁ fun Q' E' k'=>aEj (hG.bud A c.pa).handled h q.r Q' E' fun it s₂ m=>k' it s₂ (m.pre q.x)
theorem RX (hG:aY T G){fp p:Pos}{es:List E}(hs:aZ (aF T G) es):nQ T G (.range fp es p) t:=fun σ xs h A X env s c Q E k=>oif h fun g h=>CT hG hs g h c Q E fun v s₁ q=>k v s₁ fun Q' E' k'=>by
 cases q with |mk x e g p=>
 cases e
 exact aEl (hG.bud A c.pa).handled p g Q' E' fun it s₂ m=>k' it s₂ (m.pre x)
end
noncomputable abbrev ZE:=Addr × Addr × List Value
inductive ZR (C:Cx)(X:Addr→Prop)(h:Heap)(k:Nat):List ZE→List (List PV)→Prop
 |nil:ZR C X h k [] []
 |cons {q:ZE} {d:List PV} {qs:List ZE} {ds:List (List PV)} {n:Nat} (it:h.IsListIter q.1 q.2.1 k) (g:h.get? q.2.1=some (aS q.2.2 n)) (x:¬ X q.2.1) (r:Reps C X h d (q.2.2.drop k)) (t:ZR C X h k qs ds):ZR C X h k (q::qs) (d::ds)
noncomputable abbrev its (qs:List ZE):List Addr:=qs.map (·.1)
theorem ZR.move {C:Cx}{X Y:Addr→Prop}{h h':Heap}{k:Nat}{qs:List ZE}{ds:List (List PV)}(r:ZR C X h k qs ds)(fit:Fit X Y h h')(kI:∀a∈its qs,∀o,h.get? a=some o→h'.get? a=some o):ZR C Y h' k qs ds:=by
 induction r with
 |nil=>exact .nil
 |cons it g x r t ih=>exact .cons (it.at fun o e=>kI _ (.head _) o e) (fit.k _ _ g x) (fit.s _ _ g x) (Reps.keep fit _ r) (ih fun a ha=>kI a (.tail _ ha))
theorem ZR.live {C:Cx}{X:Addr→Prop}{h:Heap}{k:Nat}{qs:List ZE}{ds:List (List PV)}(r:ZR C X h k qs ds):∀a∈its qs,∃o,h.get? a=some o:=by
 induction r with
 |nil=>exact nofun
 |cons it g x r t ih=>
  intro a ha
  cases ha with
  |head=>obtain ⟨o,ho,_⟩:=it; exact ⟨o,ho⟩
  |tail _ ha=>exact ih a ha
section
variable {prog:Program}{w:World}{A:Around}{C:Cx}{X:Addr→Prop}{z TI TO:Addr}{k:Nat}
noncomputable def aEn (M:Model)(A:Around)(z TI TO:Addr)(k:Nat){β:Type}(f:Value × Nat→β→Sem (ForInStep β))(b:β):Prop:=
 ∀(q:ZE) (n:Nat) (pre post:List Value) (u:Value) (s:Shared) (Q:ForInStep β→Shared→Prop) (E:Value→Shared→Prop),IsZip s.heap z TI TO .ellipsis→s.heap.IsListIter q.1 q.2.1 k→s.heap.get? q.2.1=some (aS q.2.2 n)→s.heap.get? TO=some (aW (pre++u::post) 0) →
  q.1≠z→q.1≠TO→(pre++u::post).length<9→(∀x h',q.2.2[k]?=some x→h'.IsListIter q.1 q.2.1 (k+1)→h'.get? TO=some (aW (pre++x::post) 0)→(∀c o,c≠q.1→c≠TO→s.heap.get? c=some o→h'.get? c=some o)→Q (.yield b) {s with heap:=h'}) →
  (∀h' e,q.2.2[k]?=none→(∀c o,c≠q.1→c≠z→s.heap.get? c=some o→h'.get? c=some o)→(∃o,h'.get? e=some o∧o.cls=.type "StopIteration")→E (.ref e) {s with heap:=h'})→wpAny M A (f (.ref q.1,pre.length) b) Q E s
theorem aEo {ds:List (List PV)}{hs:List PV}{d:List PV}{G:Prop}(h:eI (d::ds)=some hs)(k:∀x r t,d=x::r→eI ds=some t→hs=x::t→G):G:=by
 cases d with
 |nil=>exact no h
 |cons x r=>exact aO (G:=fun h'=>hs=h'→G) (show (eI ds).map _=some hs from h) (fun t ht e=>k x r t rfl ht e) rfl
theorem aEp {M:Model}{β:Type}{f:Value × Nat→β→Sem (ForInStep β)}{b:β}(hf:aEn M A z TI TO k f b)(hz:X z)(hTO:X TO){E:Value→Shared→Prop}{qs:List ZE}{ds:List (List PV)}:∀{pre post:List Value} {s:Shared} {Q:β→Shared→Prop},(z::TO::its qs).Nodup→(∀a∈its qs,X a)→ZR C X s.heap k qs ds →
  s.heap.get? TO=some (aW (pre++post) 0)→IsZip s.heap z TI TO .ellipsis→post.length=qs.length→(pre++post).length<9 →
  (∀hs vs h',vs.length=qs.length→eI ds=some hs→ZR C X h' (k+1) qs (ds.map List.tail)→Reps C X h' hs vs→h'.get? TO=some (aW (pre++vs) 0)→(∀c o,c≠TO→c∉its qs→s.heap.get? c=some o→h'.get? c=some o)→Q b {s with heap:=h'}) →
  (∀h' e,eI ds=none→(∀c o,c≠z→c≠TO→c∉its qs→s.heap.get? c=some o→h'.get? c=some o)→(∃o,h'.get? e=some o∧o.cls=.type "StopIteration")→E (.ref e) {s with heap:=h'}) →
  wpAny M A (forIn ((qs.map fun q=>Value.ref q.1).zipIdx pre.length) b f) Q E s:=by
 induction qs generalizing ds with
 |nil=>
  intro pre post s Q nd xi r gT gz hl h9 kS kE
  cases r
  cases List.eq_nil_of_length_eq_zero hl
  rw [show ([].map fun q:ZE=>Value.ref q.1).zipIdx pre.length=[] from rfl,List.forIn_nil]
  exact wpAny_pure (kS [] [] s.heap rfl rfl .nil rfl gT fun zz zz zz zz=>id)
 |cons q qs ih=>
  intro pre post s Q nd xi r gT gz hl h9 kS kE
  cases post with
  |nil=>cases hl
  |cons u post=>
  cases r with | @cons _ d _ ds n it g x r t=>
  have xq:=xi _ (.head _)
  have nz:=List.nodup_cons.mp nd
  have nT:=List.nodup_cons.mp nz.2
  have nq:q.1∉its qs∧(its qs).Nodup:=List.nodup_cons.mp nT.2
  have nT1:TO∉its qs:=fun h=>nT.1 (.tail _ h)
  have qz:q.1≠z:=fun e=>nz.1 (e▸.tail _ (.head _))
  have qT:q.1≠TO:=fun e=>nT.1 (e▸.head _)
  have zT:z≠TO:=fun e=>nz.1 (e▸.head _)
  rw [show ((q::qs).map fun q:ZE=>Value.ref q.1).zipIdx pre.length=(Value.ref q.1,pre.length)::(qs.map fun q=>Value.ref q.1).zipIdx (pre.length+1) from rfl,List.forIn_cons]
  refine wpAny_bind (hf q n pre post u s _ E gz it g gT qz qT h9 (fun v h1 hv it1 gT1 k1=>?_) fun h1 e hv k1 he=>?_)
  ·have dk:q.2.2.drop k=v::q.2.2.drop (k+1):=(List.getElem?_eq_some_iff.mp hv).elim fun hlt e=>by rw [List.drop_eq_getElem_cons hlt,e]
   have fit:Fit X X s.heap h1:=.of fun c o gc nx=>k1 c o (fun e=>nx (e▸xq)) (fun e=>nx (e▸hTO)) gc
   have t1:=t.move fit fun a ha o e=>k1 a o (fun e=>nq.1 (e▸ha)) (fun e=>nT1 (e▸ha)) e
   rw [dk] at r
   cases d with
   |nil=>cases r
   |cons dx d=>
    cases r with |mk p r=>
    have e1:pre++v::post=(pre++[v])++post:=List.append_cons pre v post
    have lp:(pre++[v]).length=pre.length+1:=List.length_append
    rw [←lp]
    refine ih (pre:=pre++[v]) (List.nodup_cons.mpr ⟨fun hm=>nz.1 (by cases hm with |head=>exact .head _ |tail _ hm=>exact .tail _ (.tail _ hm)),List.nodup_cons.mpr ⟨nT1,nq.2⟩⟩) (fun a ha=>xi a (.tail _ ha)) t1 (e1▸gT1) (k1 _ _ qz.symm zT gz) (Nat.succ.inj hl) (by rw [←e1]; rw [List.length_append] at h9 ⊢; exact h9) (fun hs vs h2 hl2 hh z2 r2 gT2 k2=>?_) fun h2 e hh k2 he=>?_
    ·have k2':aG X h1 h2:=fun c o gc nx=>k2 c o (fun e=>nx (e▸hTO)) (fun hm=>nx (xi c (.tail _ hm))) gc
     have f2:=Fit.of (fit.k.trans k2')
     refine kS (dx::hs) (v::vs) h2 (congrArg (·+1) hl2) (by show (eI ds).map _=_; rw [hh]; rfl) (.cons (it1.at fun o e=>k2 _ o qT nq.1 e) (f2.k _ _ g x) x (Reps.keep f2 d r) z2) ⟨Rep.keep f2 dx p,r2⟩ (by rw [gT2,List.append_assoc]; rfl) fun c o cT ci gc=>k2 c o cT (fun hm=>ci (.tail _ hm)) (k1 c o (fun e=>ci (e▸.head _)) cT gc)
    ·exact kE h2 e (by show (eI ds).map _=_; rw [hh]; rfl) (fun c o cz cT ci gc=>k2 c o cz cT (fun hm=>ci (.tail _ hm)) (k1 c o (fun e=>ci (e▸.head _)) cT gc)) he
  ·have dk:q.2.2.drop k=[]:=List.drop_eq_nil_iff.mpr (List.getElem?_eq_none_iff.mp hv)
   rw [dk] at r
   cases d with
   |nil=>exact kE h1 e rfl (fun c o cz cT ci gc=>k1 c o (fun e=>ci (e▸.head _)) cz gc) he
   |cons dx d=>cases r
end
noncomputable abbrev ZF (z TO:Addr)(qs:List ZE)(a:Addr):Prop:=a=z∨a=TO∨a∈its qs
inductive ZSt (C:Cx)(z TI TO:Addr)(qs:List ZE)(X:Addr→Prop)(l:List PV)(h:Heap):Prop
 |mk {k n m:Nat} {d:List PV} {ds:List (List PV)} {vs:List Value} (gz:IsZip h z TI TO .none) (gI:h.get? TI=some (aW (qs.map fun q=>.ref q.1) m)) (xI:¬ X TI) (gT:h.get? TO=some (aW vs 0)) (hv:vs.length=qs.length) (r:ZR C X h k qs (d::ds)) (hl:l=lP n (d::ds)) (hn:d.length<n):ZSt C z TI TO qs X l h
section
variable {prog:Program}{w:World}{A:Around}{C:Cx}{X:Addr→Prop}{z TI TO:Addr}{qs:List ZE}{s:Shared}
theorem aEq {x:Value}{pre post:List Value}{u:Value}:((pre++u::post).toArray.setIfInBounds pre.length x)=(pre++x::post).toArray:=by
 rw [List.setIfInBounds_toArray,List.set_append_right _ _ (Nat.le_refl _),Nat.sub_self]
 rfl
theorem aEr {x:Value}{pre post:List Value}{u:Value}:Obj.mapSeq (fun a=>a.setIfInBounds pre.length x) (aW (pre++u::post) 0)=aW (pre++x::post) 0:=by
 show ({cls:=.type "tuple",data:=.seq ((pre++u::post).toArray.setIfInBounds pre.length x) (if (((pre++u::post).toArray.setIfInBounds pre.length x).size==(pre++u::post).toArray.size) then 0 else 0+1)}:Obj)=_
 rw [Array.size_setIfInBounds,beq_self_eq_true,if_pos rfl,aEq]
theorem aEs {ds:List (List PV)}{d:List PV}{n:Nat}(h:[]=lP n (d::ds))(hn:d.length<n):eI (d::ds)=none:=by
 cases n with
 |zero=>cases hn
 |succ n=>cases hh:eI (d::ds) with
  |none=>rfl
  |some hs=>rw [BA,hh] at h; cases h
structure aEt (d:PV)(l:List PV)(ds:List (List PV))(n:Nat)(hs:List PV):Prop where
 h:eI ds=some hs
 e:d=.tuple hs
 l:l=lP n (ds.map List.tail)
theorem aEu {x:PV}{l:List PV}{ds:List (List PV)}{n:Nat}(h:x::l=lP n ds):∃m hs,n=m+1∧aEt x l ds m hs:=by
 cases n with
 |zero=>cases h
 |succ n=>cases hh:eI ds with
  |none=>rw [BA,hh] at h; cases h
  |some hs=>rw [BA,hh] at h; cases h; exact ⟨n,hs,rfl,hh,rfl,rfl⟩
theorem RY (hh:A.handled=none){k m:Nat}{ds:List (List PV)}{vs:List Value}(hz:X z)(hTO:X TO)(nd:(z::TO::its qs).Nodup)(xi:∀a∈its qs,X a)(h9:qs.length<9)(hq:qs≠[])
  (gz:IsZip s.heap z TI TO .none) (gI:s.heap.get? TI=some (aW (qs.map fun q=>.ref q.1) m)) (xI:¬ X TI) (gT:s.heap.get? TO=some (aW vs 0)) (hv:vs.length=qs.length) (r:ZR C X s.heap k qs ds) {Q:Value→Shared→Prop} {E:Value→Shared→Prop}
  (kS:∀hs us h' (T:Addr),eI ds=some hs→IsZip h' z TI TO (rawInt T)→h'.get? TO=some (aW us 0)→us.length=qs.length→ZR C X h' (k+1) qs (ds.map List.tail)→Reps C X h' hs us→h'.get? T=some (aW us 0)→T≠z→(∀c o,¬ ZF z TO qs c→s.heap.get? c=some o→h'.get? c=some o)→Q (.ref T) {s with heap:=h'})
  (kE:∀h' e,eI ds=none→(∀c o,¬ ZF z TO qs c→s.heap.get? c=some o→h'.get? c=some o)→(∃o,h'.get? e=some o∧o.cls=.type "StopIteration")→E (.ref e) {s with heap:=h'}) :
  wpAny (model prog w) A (Builtin.«zip.__next__» ⟨[.ref z],[]⟩) (fun fin s'=>∃v,fin=.done (.ret v)∧Q v s') E s:=by
 have nz:=List.nodup_cons.mp nd
 have nT:=List.nodup_cons.mp nz.2
 have zT:z≠TO:=fun e=>nz.1 (e▸.head _)
 show wpAny _ _ (field (.ref z) 2>>=_) _ _ _
 refine wpAny_bind (wpAny_field gz rfl (x:=.bool false) rfl ?_)
 show wpAny _ _ (field (.ref z) 3>>=_) _ _ _
 refine wpAny_bind (wpAny_field gz rfl (x:=.ref TI) rfl ?_)
 refine wpAny_bind (wpAny_seqItems gI rfl ?_)
 have hne:(qs.map fun q=>Value.ref q.1).toArray.isEmpty=false:=by
  cases qs with
  |nil=>exact absurd rfl hq
  |cons q qs=>rfl
 dsimp only
 rw [hne]
 show wpAny _ _ (Builtin.SmallTypes.ownedTupleIsFree (.ref z)>>=_) _ _ _
 refine wpAny_bind ?_
 unfold Builtin.SmallTypes.ownedTupleIsFree
 refine wpAny_bind (wpAny_field gz rfl (x:=.none) rfl (wpAny_pure ?_))
 show wpAny _ _ (ite (true=true) _ _) _ _ _
 rw [if_pos rfl]
 refine wpAny_bind (wpAny_rule ?_)
 refine wpAny_bind (wpAny_field gz rfl (x:=.ref TO) rfl ?_)
 refine wpAny_bind (wpAny_setField_rec gz (show 0<5 by decide) fun h₁ gz₁ hs₁=>?_)
 have k1:∀c o,c≠z→s.heap.get? c=some o→h₁.get? c=some o:=fun c o ne g=>(hs₁.2 c ne).trans g
 have r1:=r.move (Fit.of (X:=X) fun c o g nx=>k1 c o (fun e=>nx (e▸hz)) g) fun a ha o g=>k1 a o (fun e=>nz.1 (e▸.tail _ ha)) g
 refine wpAny_bind (aEp (pre:=[]) (post:=vs) (z:=z) (TI:=TI) (TO:=TO) (C:=C) (X:=X) (k:=k) ?_ hz hTO nd xi r1 (k1 _ _ zT.symm gT) gz₁ hv (by rw [List.nil_append,hv]; exact h9) (fun hs us h₂ hu hd r2 p2 gT2 k2=>?_) fun h₂ e hd k2 he=>kE h₂ e hd (fun c o nf g=>k2 c o (fun e=>nf (.inl e)) (fun e=>nf (.inr (.inl e))) (fun e=>nf (.inr (.inr e))) (k1 c o (fun e=>nf (.inl e)) g)) he)
 ·intro q n pre post u s' Q' E' fz it gl gT' qz qT l9 kY kN
  refine wpAny_bind (wpAny_onRaise ?_)
  show wpAny _ _ (Builtin.SmallTypes.nextOf (.ref q.1)>>=_) _ _ _
  have hl:s'.heap.IsList q.2.1 q.2.2.toArray:=⟨_,gl,rfl,n,rfl⟩
  cases hx:q.2.2[k]? with
  |none=>
   refine wpAny_bind (wpAny_nextOf_list_end hh it hl ((List.getElem?_toArray).trans hx) fun h₂ e hs₂ he=>?_)
   obtain ⟨oe,hoe,hce⟩:=he
   have gz₂:=hs₂ _ _ qz.symm fz
   have hez:e≠z:=fun x=>by subst x; rw [gz₂] at hoe; cases hoe; exact absurd (Value.type.inj hce) (by decide)
   exact wpAny_setField_rec gz₂ (show 0<5 by decide) fun h₃ zz hs₃=>kN h₃ e hx (fun c o ci cz g=>(hs₃.2 c cz).trans (hs₂ c o ci g)) ⟨oe,(hs₃.2 _ hez).trans hoe,hce⟩
  |some x=>
   refine wpAny_bind (wpAny_nextOf_list_item it hl ((List.getElem?_toArray).trans hx) fun h₂ it₂ hs₂=>wpAny_pure ?_)
   have gT₂:=(hs₂.2 _ qT.symm).trans gT'
   refine wpAny_bind (wpAny_seqItems gT₂ rfl ?_)
   refine wpAny_bind (wpAny_updateSeq gT₂ rfl ?_ (by show (pre++u::post).length≤sizeLine; exact Nat.le_trans (Nat.le_of_lt l9) (by decide)) (by show (Array.setIfInBounds _ _ _).size≤_; rw [Array.size_setIfInBounds]; show (pre++u::post).length≤_; exact Nat.le_trans (Nat.le_of_lt l9) (by decide)))
   refine wpAny_bind (wpAny_letGo (wpAny_pure ?_))
   have sb:=Heap.SameBut.update h₂ TO (Obj.mapSeq (·.setIfInBounds pre.length x))
   exact kY x _ hx (it₂.extBut sb.extBut qT) ((Heap.get?_update_self _ gT₂ rfl).trans (congrArg some aEr)) fun c o ci cT g=>(sb.2 c cT).trans ((hs₂.2 c ci).trans g)
 ·have k12:∀c o,¬ ZF z TO qs c→s.heap.get? c=some o→h₂.get? c=some o:=fun c o nf g=>k2 c o (fun e=>nf (.inr (.inl e))) (fun e=>nf (.inr (.inr e))) (k1 c o (fun e=>nf (.inl e)) g)
  refine wpAny_bind (wpAny_seqItems gT2 rfl ?_)
  refine wpAny_bind (wpAny_newTuple ?_ (by show us.length≤sizeLine; rw [hu]; exact Nat.le_trans (Nat.le_of_lt h9) (by decide)))
  show wpAny _ _ (Builtin.SmallTypes.ownedTupleHandOut (.ref z) (.ref h₂.objs.size)>>=_) _ _ _
  refine wpAny_bind ?_
  unfold Builtin.SmallTypes.ownedTupleHandOut
  have gz₂:IsZip h₂ z TI TO .ellipsis:=k2 _ _ zT (fun hm=>nz.1 (.tail _ hm)) gz₁
  refine wpAny_bind (wpAny_setField_rec (Heap.get?_push_of_some _ gz₂) (show 0<5 by decide) fun h₃ gz₃ hs₃=>?_)
  refine wpAny_setField_rec gz₃ (show 1<5 by decide) fun h₄ gz₄ hs₄=>?_
  have up:∀c o,c≠z→h₂.get? c=some o→h₄.get? c=some o:=fun c o cz g=>(hs₄.2 c cz).trans ((hs₃.2 c cz).trans (Heap.get?_push_of_some _ g))
  have Tz:h₂.objs.size≠z:=Nat.ne_of_gt (Heap.lt_size gz₂)
  have f4:Fit X X h₂ h₄:=.of fun c o g nx=>up c o (fun e=>nx (e▸hz)) g
  exact wpAny_pure ⟨_,rfl,kS hs us h₄ h₂.objs.size hd gz₄ (up _ _ zT.symm gT2) hu (r2.move f4 fun a ha o g=>up a o (fun e=>nz.1 (e▸.tail _ ha)) g) (Reps.keep f4 hs p2) ((hs₄.2 _ Tz).trans ((hs₃.2 _ Tz).trans (Heap.get?_push_size _ rfl))) Tz fun c o nf g=>up c o (fun e=>nf (.inl e)) (k12 c o nf g)⟩
end
theorem RZ (vs:List Value):checkTypeCall "zip" ⟨vs,[]⟩=pure ():=by kernel_rfl
theorem SA (a b:Value)(vs:List Value):checkBuiltinCall "zip.__new__" ⟨.type "zip" :: a::b::vs,[]⟩=pure ():=by kernel_rfl
theorem SB (vs:List Value):argsOk "object.__init__" ⟨vs,[]⟩:=by
 unfold argsOk; rw [signature?_of (id := "object.__init__") (n:=['_', '_', 't', 'i', 'n', 'i', '_', '_']) (o:=['t', 'c', 'e', 'j', 'b', 'o']) (by kernel_rfl) F.owner_object]; kernel_rfl
theorem ZR.len {C:Cx}{X:Addr→Prop}{h:Heap}{k:Nat}{qs:List ZE}{ds:List (List PV)}(r:ZR C X h k qs ds):qs.length=ds.length:=by
 induction r with
 |nil=>rfl
 |cons it g x r t ih=>exact congrArg (·+1) ih
structure wW (C:Cx)(Y:Addr→Prop)(n:Nat)(h h':Heap)(qs:List ZE)(ds:List (List PV)):Prop where
 r:ZR C Y h' 0 qs ds
 nd:(its qs).Nodup
 lo:∀a∈its qs,n≤a
 k:aG NoX h h'
 sz:n≤h'.objs.size
noncomputable abbrev jT (qs:List ZE):List Value:=qs.map fun q=>.ref q.1
section
variable {prog:Program}{w:World}{A:Around}{C:Cx}{X Y:Addr→Prop}{s:Shared}
theorem aEv {f:Value→Array Value→Sem (ForInStep (Array Value))}(hf:∀x r,f x r=(holding r.toList (pyIter x)>>=fun v=>pure (.yield (r.push v)))){E:Value→Shared→Prop}{l:List PV}:∀{ds:List (List PV)} {vs:List Value} {acc:Array Value} {s:Shared} {Q:Array Value→Shared→Prop},pW l=some ds→Reps C Y s.heap l vs →
  (∀qs h' r,wW C Y s.heap.objs.size s.heap h' qs ds→r.toList=acc.toList++jT qs→Q r {s with heap:=h'})→wpAny (model prog w) A (forIn vs acc f) Q E s:=by
 induction l with
 |nil=>
  intro ds vs acc s Q h r k
  cases h; cases r
  rw [List.forIn_nil]
  exact wpAny_pure (k [] s.heap acc ⟨.nil,List.nodup_nil,nofun,aG.refl _ _,Nat.le_refl _⟩ (List.append_nil _).symm)
 |cons d l ih=>
  intro ds vs acc s Q h r k
  cases r with | @mk v vs p q=>
  refine aB h fun x hx h=>aO (G:=fun ds=>(∀qs h' r,wW C Y s.heap.objs.size s.heap h' qs ds→r.toList=acc.toList++jT qs→Q r {s with heap:=h'})→_) h (fun ds hds k=>?_) k
  cases dJ (d:=.v d) hx p with | @mk a _ n _ g _=>
  cases d <;> first |exact no hx |cases hx
  cases p with |mk ya g r=>
  rw [List.forIn_cons,hf]
  refine wpAny_bind (wpAny_bind (wpAny_holding (wpAny_pyIter_list ⟨_,g,rfl,_,rfl⟩ (wpAny_pure ?_))))
  have kp:=aG.push NoX s.heap {cls:=.type "list_iterator",data:=.fields #[.ref a,.int 0 0]}
  refine ih hds (Reps.keep (.nox kp) _ q) fun qs h' r' m e=>k ((s.heap.objs.size,a,_)::qs) h' r' ⟨.cons ⟨_,m.k _ _ (Heap.get?_push_size _ rfl) id,rfl,rfl⟩ (m.k _ _ (kp _ _ g id) id) ya (Reps.keep (.nox (kp.trans m.k)) _ r) m.r,List.nodup_cons.mpr ⟨fun hm=>?_,m.nd⟩,fun b hb=>?_,kp.trans m.k,Nat.le_trans (Nat.le_trans (Nat.le_succ _) (Nat.le_of_eq (Heap.size_push ..).symm)) m.sz⟩ ?_
  ·have:=m.lo _ hm
   rw [Heap.size_push] at this
   exact Nat.not_succ_le_self _ this
  ·cases hb with
   |head=>exact Nat.le_refl _
   |tail _ hb=>
    have:=m.lo _ hb
    rw [Heap.size_push] at this
    exact Nat.le_of_succ_le this
  ·rw [e,Array.toList_push,List.append_assoc]; rfl
theorem SC (vs:List Value):Builtin.SmallTypes.newClass "zip" ⟨.type "zip" :: vs,[]⟩=pure (.type "zip",vs):=by
 simp only [Builtin.SmallTypes.newClass,isType,pure_bind,sub_zip,Bool.not_true,Bool.false_eq_true,if_false]
structure jU (C:Cx)(Y:Addr→Prop)(h h':Heap)(z TI TO:Addr)(qs:List ZE)(ds:List (List PV)):Prop where
 m:wW C Y h.objs.size h h' qs ds
 gz:IsZip h' z TI TO .none
 gI:h'.get? TI=some (aW (jT qs) 0)
 gT:h'.get? TO=some (aW (qs.map fun zz=>.none) 0)
 ni:∀a∈its qs,a<TI
 it:TI<TO
 tz:TO<z
 lo:h.objs.size≤TI
theorem aEw {h:Heap}{qs:List ZE}{ds:List (List PV)}(m:wW C Y h.objs.size h s.heap qs ds)(h9:ds.length<9){Q:Fin→Shared→Prop}{E:Value→Shared→Prop}
  (k:∀z TI TO h',jU C Y h h' z TI TO qs ds→Q (.done (.ret (.ref z))) {s with heap:=h'}) :
  wpAny (model prog w) A (do ret (←Builtin.SmallTypes.newRecord (.type "zip") (Builtin.SmallTypes.ownedTupleFields++[.bool false,←newTuple (jT qs),←newTuple ((jT qs).map fun zz=>.none)]))) Q E s:=by
 have hq:∀{f:ZE→Value},(qs.map f).length≤sizeLine:=by
  intro f
  rw [List.length_map,m.r.len]
  exact Nat.le_trans (Nat.le_of_lt h9) (by decide)
 have e:(jT qs).map (fun zz=>Value.none)=qs.map fun zz=>.none:=List.map_map
 rw [e]
 refine wpAny_bind (wpAny_newTuple (wpAny_bind (wpAny_newTuple (wpAny_bind ?_) hq)) hq)
 unfold Builtin.SmallTypes.newRecord
 dsimp only
 refine wpAny_newObj_type ?_ (by show 5≤_; decide)
 have k1:∀o,aG NoX s.heap (((s.heap.push (aW (jT qs) 0)).push (aW (qs.map fun zz=>.none) 0)).push o):=fun o=>(aG.push _ _ _).trans ((aG.push _ _ _).trans (aG.push _ _ _))
 have sz:∀(h:Heap) (o:Obj),h.objs.size<(h.push o).objs.size:=fun h o=>Nat.lt_of_lt_of_eq (Nat.lt_succ_self _) (Heap.size_push ..).symm
 exact wpAny_pure (k _ s.heap.objs.size (s.heap.push (aW (jT qs) 0)).objs.size _ ⟨⟨m.r.move (.nox (k1 _)) fun a ha o g=>k1 _ a o g id,m.nd,m.lo,m.k.trans (k1 _),Nat.le_trans m.sz (Nat.le_of_lt (Nat.lt_trans (sz _ _) (Nat.lt_trans (sz _ _) (sz _ _))))⟩,Heap.get?_push_size _ rfl,Heap.get?_push_of_some _ (Heap.get?_push_of_some _ (Heap.get?_push_size _ rfl)),Heap.get?_push_of_some _ (Heap.get?_push_size _ rfl),fun a ha=>(m.r.live a ha).elim fun o g=>Heap.lt_size g,sz _ _,sz _ _,m.sz⟩)
theorem aEx {l:List PV}{ds:List (List PV)}{a b:Value}{vs:List Value}(hl:pW l=some ds)(r:Reps C Y s.heap l (a::b::vs))(h9:ds.length<9){Q:Value→Shared→Prop}{E:Value→Shared→Prop}
  (k:∀z TI TO qs h',jU C Y s.heap h' z TI TO qs ds→Q (.ref z) {s with heap:=h'}):wpAny (model prog w) A (call (.type "zip") (a::b::vs)) Q E s:=by
 refine callType_new (S:=fun zz R s'=>s'=s∧∀z TI TO qs h',jU C Y s.heap h' z TI TO qs ds→R (.ok (.ret (.ref z))) {s with heap:=h'}) F.called_zip (by decide) (RZ _) (SA _ _ _) (fun obj=>SB _) F.entry_zip_new (.of_wp fun prog w A R s' hs=>?_) ⟨rfl,fun z TI TO qs h' n=>⟨⟨_,n.gz,rfl⟩,k z TI TO qs h' n⟩⟩
 cases hs with |intro e k=>
 cases e
 show wpAny _ _ (Builtin.SmallTypes.newClass "zip" ⟨.type "zip" :: a::b::vs,[]⟩>>=_) _ _ _
 rw [SC]
 refine wpAny_bind (wpAny_pure ?_)
 show wpAny _ _ (Builtin.SmallTypes.iterAll (a::b::vs)>>=_) _ _ _
 unfold Builtin.SmallTypes.iterAll
 refine wpAny_bind (wpAny_bind (aEv (fun zz zz=>rfl) hl r fun qs h' r m e=>wpAny_pure ?_))
 rw [show r.toList=jT qs from e]
 exact aEw m h9 fun z TI TO h₁ n=>⟨_,rfl,k z TI TO qs h₁ n⟩
end
section
variable {prog:Program}{w:World}{A:Around}{C:Cx}{X Y:Addr→Prop}{s:Shared}{z TI TO:Addr}{qs:List ZE}{h h':Heap}{l ls:List PV}
theorem ZSt.keep (q:ZSt C z TI TO qs X l h)(fit:Fit X Y h h')(kF:∀a o,ZF z TO qs a→h.get? a=some o→h'.get? a=some o):ZSt C z TI TO qs Y l h':=by
 cases q with |mk gz gI xI gT hv r hl hn=>
 exact ⟨kF _ _ (.inl rfl) gz,fit.k _ _ gI xI,fit.s _ _ gI xI,kF _ _ (.inr (.inl rfl)) gT,hv,r.move fit fun a ha o g=>kF a o (.inr (.inr ha)) g,hl,hn⟩
theorem aEy (hh:A.handled=none){ts:List NP}{k:Nat}{p:Pos}(nd:(z::TO::its qs).Nodup)(nI:¬ ZF z TO qs TI)(h9:qs.length<9)(hq:qs≠[]):mD (model prog w) A C (.tup ts k p) (.ref z) (ZF z TO qs) (ZSt C z TI TO qs) where
 keep:=fun X Y l h h' q fit kF=>q.keep fit kF
 next:=fun X d l s st hFX Q E k=>by
  cases st with | @mk j n m d0 ds vs gz gI xI gT hv r hl hn=>
  have hT:s.TypeIs (.ref z) "zip" := ⟨_,gz,rfl⟩
  obtain ⟨n,hs,rfl,st⟩:=aEu hl
  unfold pyNext
  refine wpAny_bind (wpAny_attempt (wpAny_callSpecial?_slot (name:=Str.ofString "__next__") hT F.slot_zip_next
   (wpAny_call_entry F.slot_zip_next hT F.entry_zip_next (RY (A:=A.in1) hh (hFX _ (.inl rfl)) (hFX _ (.inr (.inl rfl))) nd (fun a ha=>hFX a (.inr (.inr ha))) h9 hq gz gI xI gT hv r (fun hs' us h1 T e1 gz1 gT1 lu r1 p1 g1 Tz k1=>wpAny_pure (k _ _ fun Q' E' k'=>?_)) fun h1 e e1=>absurd (st.h.symm.trans e1) nofun) (F.args_zip_next_1 _))))
  cases st.h.symm.trans e1
  refine wpAny_letOwnedTupleGo_zip gz1 fun h2 gz2 s2=>k' _ _ ?_
  have up:∀c o,c≠z→h1.get? c=some o→h2.get? c=some o:=fun c o cz g=>(s2.2 c cz).trans g
  have f2:Fit X X h1 h2:=.of fun c o g nx=>up c o (fun e=>nx (e▸hFX _ (.inl rfl))) g
  have nz:=List.nodup_cons.mp nd
  refine ⟨⟨fun c o g nf=>up c o (fun e=>nf (.inl e)) (k1 c o nf g),rfl,rfl⟩,⟨gz2,up _ _ (fun e=>nI (.inl e)) (k1 _ _ nI gI),xI,up _ _ (fun e=>nz.1 (e▸.head _)) gT1,lu,r1.move f2 fun a ha o g=>up a o (fun e=>nz.1 (e▸.tail _ ha)) g,st.l,?_⟩,.tup rfl st.e rfl (up _ _ Tz g1) (Reps.keep f2 _ p1)⟩
  exact aEo st.h fun x r t e zz zz=>by rw [e] at hn ⊢; exact Nat.lt_of_succ_lt_succ hn
 done:=fun X s st hFX Q E k=>by
  cases st with |mk gz gI xI gT hv r hl hn=>
  have hT:s.TypeIs (.ref z) "zip" := ⟨_,gz,rfl⟩
  unfold pyNext
  refine wpAny_bind (wpAny_attempt (wpAny_callSpecial?_slot (name:=Str.ofString "__next__") hT F.slot_zip_next
   (wpAny_call_entry F.slot_zip_next hT F.entry_zip_next (RY (A:=A.in1) hh (hFX _ (.inl rfl)) (hFX _ (.inr (.inl rfl))) nd (fun a ha=>hFX a (.inr (.inr ha))) h9 hq gz gI xI gT hv r (fun hs' us h1 T e1 zz zz zz zz zz zz zz zz=>absurd ((aEs hl hn).symm.trans e1) nofun) fun h1 e e1 k1 he=>?_) (F.args_zip_next_1 _))))
  obtain ⟨o,ho,hc⟩:=he
  exact wpAny_bind (wpAny_isInstance (T := "StopIteration") (b:=true) ⟨o,ho,hc⟩ isSubtype_stop (wpAny_pure (k _ _ ⟨rfl,⟨fun c o g nf=>k1 c o nf g,rfl,rfl⟩⟩)))
 self:=fun X l s Q E st k=>by
  cases st with |mk gz=>exact wpAny_pyIter_zip gz k
 live:=fun X l h st a ha=>by
  cases st with |mk gz gI xI gT hv r hl hn=>
  exact ha.elim (fun e=>⟨_,e▸gz⟩) fun ha=>ha.elim (fun e=>⟨_,e▸gT⟩) (r.live a)
theorem jU.lo' {ds:List (List PV)}(n:jU C Y h h' z TI TO qs ds){a:Addr}(f:ZF z TO qs a):h.objs.size≤a:=by
 have h1:=Nat.le_of_lt (Nat.lt_of_le_of_lt n.lo n.it)
 exact f.elim (fun e=>e▸Nat.le_trans h1 (Nat.le_of_lt n.tz)) fun f=>f.elim (fun e=>e▸h1) (n.m.lo a)
theorem jU.nd {ds:List (List PV)}(n:jU C Y h h' z TI TO qs ds):(z::TO::its qs).Nodup:=by
 have h1:∀a∈its qs,a<TO:=fun a ha=>Nat.lt_trans (n.ni a ha) n.it
 refine List.nodup_cons.mpr ⟨fun hm=>?_,List.nodup_cons.mpr ⟨fun hm=>Nat.lt_irrefl _ (h1 _ hm),n.m.nd⟩⟩
 cases hm with
 |head=>exact Nat.lt_irrefl _ n.tz
 |tail _ hm=>exact Nat.lt_irrefl _ (Nat.lt_trans (h1 _ hm) n.tz)
theorem jU.nI {ds:List (List PV)}(n:jU C Y h h' z TI TO qs ds):¬ ZF z TO qs TI:=fun f=>f.elim (fun e=>Nat.lt_irrefl _ (Nat.lt_trans (e▸n.it:z<TO) n.tz)) fun f=>f.elim (fun e=>Nat.lt_irrefl _ (e▸n.it:TO<TO)) fun f=>Nat.lt_irrefl _ (n.ni _ f)
theorem SD:∀{l:List PV} {ds:List (List PV)},pW l=some ds→ds.length=l.length
 |[],_,h=>aQ h rfl
 |d::l,ds,h=>aB h fun x hx h=>aO (G:=fun ds=>ds.length=_) h fun r hr=>congrArg (·+1) (SD hr)
theorem aEz {t:Tg}(hh:A.handled=none)(ht:∀x p,t≠.nm x p)(hX:∀a,X a→∃o,s.heap.get? a=some o){a:List PV}{r:List (List PV)}{vs:List Value}(hl:pW l=some (a::r))(hz:PM (a::r)=some ls)(q:Reps C X s.heap l vs){Q:Value→Shared→Prop}{E:Value→Shared→Prop}
  (k:∀v s₁,Tr (model prog w) A (pyIter v) s₁ (jS (model prog w) A C X t ls s)→Q v s₁):wpAny (model prog w) A (PySem.call (.type "zip") vs) Q E s:=dI hz fun c hz=>by
 have ln:=(SD hl).trans q.length
 cases r with
 |nil=>cases c
 |cons b r=>
 cases vs with
 |nil=>cases ln
 |cons v0 vs=>cases vs with
  |nil=>cases ln
  |cons v1 vs=>
  cases t with
  |nm x p=>exact absurd rfl (ht x p)
  |tup ts m p=>
  have h9:(a::b::r).length<9:=by
   have:=of_decide_eq_false (show decide (7<(b::r).length)=false from c)
   exact Nat.lt_succ_of_le (Nat.succ_le_succ (Nat.le_of_not_lt this))
  refine aEx (Y:=fun a=>X a∨s.heap.objs.size≤a) hl (Reps.keep ⟨aG.refl _ _,fun a o g n=>fun f=>f.elim n fun le=>Nat.lt_irrefl _ (Nat.lt_of_lt_of_le (Heap.lt_size g) le)⟩ _ q) h9 fun z TI TO qs h' n=>k (.ref z) _ fun Q' E' k'=>wpAny_pyIter_zip n.gz (k' _ _ ?_)
  have lq:=n.m.r.len
  refine ⟨⟨n.m.k,rfl,rfl⟩,aEy hh n.nd n.nI (lq▸h9) (fun e=>by rw [e] at lq; cases lq),fun a f=>jE (n.lo' f),⟨n.gz,n.gI,fun f=>f.elim (fun x=>(hX _ x).elim fun o g=>Nat.lt_irrefl _ (Nat.lt_of_lt_of_le (Heap.lt_size g) n.lo)) n.nI,n.gT,List.length_map _,n.m.r.move ⟨aG.refl _ _,fun a o g n' f=>n' (f.imp id n.lo')⟩ fun zz zz zz=>id,(Option.some.inj hz).symm,Nat.lt_succ_self _⟩⟩
end
theorem SE {T:Th}{G:Gl}{t:Tg}(hG:aY T G)(ht:∀x p,t≠.nm x p){fp p:Pos}{es:List E}(hs:aZ (aF T G) es):nQ T G (.zip fp es p) t:=fun σ xs h A X env s c Q E k=>oif h fun g h=>aB h fun l hl h=>aB h fun ls hls h=>by
 cases ls with
 |nil=>exact no h
 |cons a r=>exact Call_ (gname hG g (hG.bval (iV,_) (.tail _ (.tail _ (.head _)))) c (mC hs (jF hl) c (fun zz zz=>nO _) fun vs s' q=>aEz (t:=t) (hG.bud A c.pa).handled ht (c.ext q.x).e.bnd hls h q.r.reps fun v s₁ m=>k v s₁ fun Q' E' k'=>m Q' E' fun it s₂ m=>k' it s₂ (m.pre q.x)))
theorem gJ (x:Nm):∀K:Ks,dP x K=K.lookup (mkS x)
 |[]=>rfl
 |(y,k)::r=>by
  rw [List.lookup_cons]
  show (bif aC (nm y) x then some k else dP x r)=_
  rw [gJ x r]
  by_cases e:nm y=x
  ·rw [←e,fV,jB,beq_self_eq_true]; rfl
  ·rw [nL e,show (mkS x==y)=false from beq_eq_false_iff_ne.mpr fun h=>e (h▸rfl)]; rfl
noncomputable def reK (env:Env)(x:PySem.Str)(k:NameKind):NameKind:=if (k==.free && env.scope.kind==.function && env.kindOf x==some .cell)=true then .cell else k
theorem aE0 (sc:Scope)(env:Env)(x:PySem.Str):(relabel sc env).names.lookup x=(sc.names.lookup x).map (reK env x):=by
 show (sc.names.map _).lookup x=_
 induction sc.names with
 |nil=>rfl
 |cons p r ih=>
  obtain ⟨n,k⟩:=p
  have e:(if (k==NameKind.free && env.scope.kind==.function && env.kindOf n==some .cell)=true then (n,NameKind.cell) else (n,k))=(n,reK env n k):=by
   unfold reK
   split <;> rfl
  show List.lookup x ((if (k==NameKind.free && env.scope.kind==.function && env.kindOf n==some .cell)=true then (n,NameKind.cell) else (n,k))::_)=_
  rw [e,List.lookup_cons,List.lookup_cons]
  cases hx:x==n with
  |true=>rw [eq_of_beq hx]; rfl
  |false=>exact ih
theorem qS:∀(names:Ks) (n:Nat) (acc:List (PySem.Str × Addr)),cellsFrom n names acc=cellsFrom n names []++acc
 |[],_,_=>rfl
 |(x,k)::r,n,acc=>by
  unfold cellsFrom
  split
  ·rw [qS r (n+1) ((x,n)::acc),qS r (n+1) [(x,n)],List.append_assoc]; rfl
  ·exact qS r n acc
theorem wY {x:PySem.Str}{c:Addr}:∀(names:Ks) (n:Nat),(x,c)∈cellsFrom n names []→(x,NameKind.cell)∈names
 |[],_,h=>nomatch h
 |(y,k)::r,n,h=>by
  unfold cellsFrom at h
  by_cases hk:(k==NameKind.cell)=true
  ·rw [if_pos hk,qS] at h
   cases eq_of_beq hk
   refine (List.mem_append.mp h).elim (fun h=>.tail _ (wY r _ h)) fun h=>?_
   cases List.mem_singleton.mp h
   exact .head _
  ·rw [if_neg hk] at h
   exact .tail _ (wY r _ h)
theorem aE1 {l:List (PySem.Str × Addr)}{x:PySem.Str}{c:Addr}(h:(x,c)∈l):∃c',l.lookup x=some c':=by
 induction l with
 |nil=>cases h
 |cons p r ih=>
  obtain ⟨y,d⟩:=p
  rw [List.lookup_cons]
  cases q:x==y with
  |true=>exact ⟨d,rfl⟩
  |false=>cases h with
   |head=>rw [beq_self_eq_true] at q; cases q
   |tail _ h=>exact ih h
structure Clo (env:Env)(names:Ks)(acc cl:List (PySem.Str × Addr)):Prop where
 sub:∀x c,(x,c)∈cl→(x,c)∈acc∨env.cells.lookup x=some c
 has:∀x,(x,NameKind.free)∈names→∃c,(x,c)∈cl
 acc:∀q∈acc,q∈cl
theorem aE2 {env:Env}{f:PySem.Str × NameKind→List (PySem.Str × Addr)→Sem (ForInStep (List (PySem.Str × Addr)))}(hf:∀p r,f p r=if (p.2==NameKind.free)=true then cellOf env p.1>>=fun a=>pure (.yield ((p.1,a)::r)) else pure (.yield r)){names:Ks}:
  ∀{acc:List (PySem.Str × Addr)},(∀x,(x,NameKind.free)∈names→∃c,env.cells.lookup x=some c)→∃cl,(forIn names acc f:Sem _)=pure cl∧Clo env names acc cl:=by
 induction names with
 |nil=>exact fun zz=>⟨_,List.forIn_nil,fun zz zz h=>.inl h,nofun,fun zz h=>h⟩
 |cons p r ih=>
  intro acc hn
  obtain ⟨y,k⟩:=p
  have hr:=fun x h=>hn x (.tail _ h)
  rw [List.forIn_cons,hf]
  by_cases hk:(k==NameKind.free)=true
  ·rw [if_pos hk]
   cases eq_of_beq hk
   obtain ⟨c,hc⟩:=hn y (.head _)
   obtain ⟨cl,e,q⟩:=ih (acc:=(y,c)::acc) hr
   refine ⟨cl,(by rw [cellOf,hc]; exact e),fun x d h=>(q.sub x d h).elim (fun h=>?_) .inr,fun x h=>?_,fun b h=>q.acc b (.tail _ h)⟩
   ·cases h with
    |head=>exact .inr hc
    |tail _ h=>exact .inl h
   ·cases h with
    |head=>exact ⟨c,q.acc _ (.head _)⟩
    |tail _ h=>exact q.has x h
  ·rw [if_neg hk]
   obtain ⟨cl,e,q⟩:=ih (acc:=acc) hr
   refine ⟨cl,e,q.sub,fun x h=>?_,q.acc⟩
   cases h with
   |head=>exact absurd rfl hk
   |tail _ h=>exact q.has x h
structure ScM (K:Ks)(sc:Scope)(x:PySem.Str)(k:NameKind):Prop where
 l:sc.names.lookup x=some k
 n:scN K (nm x) k=true
theorem qU {K:Ks}{sc:Scope}(h:iZ K sc=true){x:PySem.Str}{k:NameKind}(hm:(x,k)∈sc.names):ScM K sc x k:=
 aP h fun zz h=>aP (List.all_eq_true.mp h (x,k) hm) fun a b=>⟨by rw [←dec a,gJ,jB],b⟩
theorem SF {K:Ks}{sc:Scope}(h:iZ K sc=true):sc.kind=.function:=aP h fun h zz=>dec h
theorem xA {a b:Bool}{G:Prop}(h:(a || b)=true)(k1:a=true→G)(k2:b=true→G):G:=by
 cases a with
 |true=>exact k1 rfl
 |false=>exact k2 h
theorem aE3 {x:PySem.Str}(h:aC (nm x) BF=false):(x==("__classdict__" : PySem.Str))=false:=
 Bool.eq_false_iff.mpr fun e=>Bool.false_ne_true (h.symm.trans (by rw [show nm x=BF from congrArg nm (eq_of_beq e)]; decide))
section
variable {C:Cx}{K:Ks}{X B:Addr→Prop}{env:Env}{σ:Sg}{h:Heap}{sc:Scope}
structure SG (env:Env)(x:PySem.Str)(c:Addr):Prop where
 c:env.cells.lookup x=some c
 n:(x==("__classdict__" : PySem.Str))=false
 k:env.kindOf x≠some .local
theorem SH (e:aK C K X B env h σ)(hs:iZ K sc=true){x:PySem.Str}(hx:(x,NameKind.free)∈sc.names):∃c,SG env x c:=
 aP (qU hs hx).n fun h1 h2=>by
  have n:=aE3 (dZ h1)
  refine xA h2 (fun h=>?_) fun h=>?_
  ·have k:=e.kinds _ _ (dec h)
   rw [jB] at k
   exact k.2.elim fun c hc=>⟨c,hc,n,fun e=>by rw [k.1] at e; cases e⟩
  ·have k:=e.kinds _ _ (dec h)
   rw [jB] at k
   exact k.2.elim fun c hc=>⟨c,hc,n,fun e=>k.1.elim (fun k=>by rw [k] at e; cases e) fun k=>by rw [k.1] at e; cases e⟩
theorem aE4 (e:aK C K X B env h σ)(hs:iZ K sc=true):∃cl,closureFor sc env=pure cl∧Clo env sc.names [] cl:=by
 obtain ⟨cl,e1,q⟩:=aE2 (env:=env) (f:=fun p r=>if (p.2==NameKind.free)=true then cellOf env p.1>>=fun a=>pure (.yield ((p.1,a)::r)) else pure (.yield r)) (fun zz zz=>rfl) (names:=sc.names) (acc:=[]) fun x hx=>(SH e hs hx).imp fun zz q=>q.c
 refine ⟨cl,?_,q⟩
 show ((forIn sc.names [] _:Sem _)>>=fun cs=>pure cs)=_
 rw [show (forIn sc.names [] _:Sem (List (PySem.Str × Addr)))=pure cl from e1]
 rfl
end
theorem tN {α:Type}{P:Nm→Bool}{x:Nm}{sl:α}:∀σ:List (Nm × α),aD x (σ.filter fun p=>P p.1)=some sl→P x=true∧aD x σ=some sl
 |[],h=>no h
 |p::r,h=>by
  by_cases hf:P p.1=true
  ·rw [List.filter_cons_of_pos (p:=fun q:Nm × α=>P q.1) hf] at h
   have h:(bif aC p.1 x then some p.2 else aD x (r.filter fun p=>P p.1))=some sl:=h
   show _∧(bif aC p.1 x then some p.2 else aD x r)=_
   cases hy:aC p.1 x with
   |true=>rw [hy] at h; exact ⟨bH hy▸hf,h⟩
   |false=>rw [hy] at h; exact tN r h
  ·rw [List.filter_cons_of_neg (p:=fun q:Nm × α=>P q.1) hf] at h
   have q:=tN r h
   refine ⟨q.1,?_⟩
   show (bif aC p.1 x then some p.2 else aD x r)=_
   rw [show aC p.1 x=false from Bool.eq_false_iff.mpr fun e=>hf (bH e▸q.1)]
   exact q.2
noncomputable def gN (h:Heap)(sc:Scope)(cl:List (PySem.Str × Addr))(env:Env):Env:=
 {newEnv sc h.objs.size env.globals (cellsFrom (h.objs.size+1) sc.names cl) env.qual none .none (some env) builtinsNs with scope:=relabel sc env}
noncomputable def jV (h:Heap)(sc:Scope):Heap:=pushCells (h.push {cls:=.type "dict",data:=.dict #[]}) sc.names
inductive aE5 (h:Heap)(sc:Scope)(env:Env)(x:PySem.Str)(c:Addr):Prop
 |new (hm:(x,NameKind.cell)∈sc.names) (lo:h.objs.size+1≤c) (i:(jV h sc).IsCell c none) (m:(x,c)∈cellsFrom (h.objs.size+1) sc.names [])
 |old (n:(cellsFrom (h.objs.size+1) sc.names []).lookup x=none) (m:env.cells.lookup x=some c)
structure SI (C:Cx)(X B:Addr→Prop)(env:Env)(h:Heap)(sc:Scope)(cenv:Env)(h':Heap)(σ:Sg):Prop where
 e:aK C sc.names (fun a=>X a∨dR sc.names cenv a) B cenv h' (jP sc σ)
 nw:∀a,dR sc.names cenv a→h.get? a=none
 k:aG NoX h h'
section
variable {C:Cx}{K:Ks}{X B:Addr→Prop}{env:Env}{σ:Sg}{h:Heap}{sc:Scope}{cl:List (PySem.Str × Addr)}
theorem CU (h:Heap)(sc:Scope):CellsOk (jV h sc) (h.objs.size+1) (cellsFrom (h.objs.size+1) sc.names []):=by
 have ok:=cellsFrom_ok sc.names (h.push {cls:=.type "dict",data:=.dict #[]}) (h.objs.size+1) [] ⟨nofun,List.Pairwise.nil⟩ (by rw [Heap.size_push]; exact Nat.le_refl _)
 rw [Heap.size_push] at ok
 exact ok
theorem nR (q:Clo env sc.names [] cl){x:PySem.Str}{c:Addr}(hc:(gN h sc cl env).cells.lookup x=some c):aE5 h sc env x c:=by
 have hc:(cellsFrom (h.objs.size+1) sc.names cl).lookup x=some c:=hc
 rw [qS,List.lookup_append] at hc
 cases e:(cellsFrom (h.objs.size+1) sc.names []).lookup x with
 |some c'=>
  rw [e] at hc
  cases hc
  have hm:=mem_of_lookup e
  exact .new (wY _ _ hm) ((CU h sc).empty _ _ hm).2 ((CU h sc).empty _ _ hm).1 hm
 |none=>
  rw [e] at hc
  exact .old e ((q.sub x c (mem_of_lookup hc)).elim nofun id)
theorem SJ {x:PySem.Str}(hm:sc.names.lookup x=some .cell)(cl:List (PySem.Str × Addr)):∃c,(cellsFrom (h.objs.size+1) sc.names cl).lookup x=some c:=Option.isSome_iff_exists.mp (cellsFrom_some _ _ _ (.inl hm))
theorem kof {x:PySem.Str}{k:NameKind}(hx:sc.names.lookup x=some k):(gN h sc cl env).kindOf x=some (reK env x k):=by
 show (relabel sc env).names.lookup x=_
 rw [aE0,hx]; rfl
theorem SK (e:aK C K X B env h σ)(hs:iZ K sc=true)(q:Clo env sc.names [] cl){x:PySem.Str}(hx:(x,NameKind.free)∈sc.names):∃c,(gN h sc cl env).cells.lookup x=some c∧SG env x c:=by
 obtain ⟨c,f⟩:=SH e hs hx
 obtain ⟨c',m⟩:=q.has x hx
 obtain ⟨c',m⟩:=aE1 m
 have m':=(q.sub x c' (mem_of_lookup m)).elim nofun id
 rw [f.c] at m'
 cases m'
 refine ⟨c,?_,f⟩
 show (cellsFrom (h.objs.size+1) sc.names cl).lookup x=some c
 rw [qS,List.lookup_append,m]
 cases e:(cellsFrom (h.objs.size+1) sc.names []).lookup x with
 |none=>rfl
 |some d=>
  have:=(qU hs (wY _ _ (mem_of_lookup e))).l
  rw [(qU hs hx).l] at this
  cases this
theorem SL (x:PySem.Str)(n:(x==("__classdict__" : PySem.Str))=false)(hk:(gN h sc cl env).kindOf x=some (reK env x .free)):(gN h sc cl env).kindOf x=some .cell∨((gN h sc cl env).kindOf x=some .free∧(x==("__classdict__" : PySem.Str))=false):=by
 rw [hk]
 unfold reK
 split
 ·exact .inl rfl
 ·exact .inr ⟨rfl,n⟩
theorem tO (q:Clo env sc.names [] cl){a:Addr}(f:dR sc.names (gN h sc cl env) a):h.get? a=none:=by
 cases f with
 |loc=>exact jE (Nat.le_refl _)
 |cell k l=>cases nR q l with
  |new hm lo i m=>exact jE (Nat.le_of_succ_le lo)
  |old n m=>
   rw [gJ,jB] at k
   obtain ⟨c,hc⟩:=SJ (h:=h) k []
   rw [n] at hc; cases hc
theorem SM (hs:iZ K sc=true)(q:Clo env sc.names [] cl){a:Addr}(f:Fra (gN h sc cl env) a):dR sc.names (gN h sc cl env) a∨Fra env a:=f.elim (fun e=>.inl (e▸.loc)) fun ⟨y,hy⟩=>by
 cases nR q hy with
 |new hm lo i m=>exact .inl (.cell (by rw [gJ,jB]; exact (qU hs hm).l) hy)
 |old n m=>exact .inr (.inr ⟨y,m⟩)
theorem aE6 (e:aK C K X B env h σ)(hs:iZ K sc=true)(q:Clo env sc.names [] cl):SI C X B env h sc (gN h sc cl env) (jV h sc) σ:=by
 have kN:aG NoX h (jV h sc):=fun a o g zz=>pushCells_keeps _ _ a o (Heap.get?_push_of_some _ g)
 have hns:(jV h sc).Ns h.objs.size fun zz=>none:=(Heap.Ns.new h (.type "dict")).keeps (pushCells_keeps _ _)
 have fit:Fit X (fun a=>X a∨dR sc.names (gN h sc cl env) a) h (jV h sc):=⟨kN.any,fun a o g n f=>f.elim n fun f=>by rw [tO q f] at g; cases g⟩
 have oldC:∀{x c},env.cells.lookup x=some c→∃o,h.get? c=some o:=fun hc=>(e.cellX _ _ hc).2.2.elim fun v hv=>hv.elim fun o q=>⟨o,q.1⟩
 have young:∀{x c c'},env.cells.lookup x=some c→h.objs.size+1≤c'→c≠c':=fun hc lo e=>(oldC hc).elim fun o g=>by rw [jE (e▸Nat.le_of_succ_le lo)] at g; cases g
 refine ⟨⟨show sc.kind=_ from SF hs,e.glo,e.bui,e.base.trans kN,fun a f=>f.elim (e.newB a) fun f=>?_,⟨_,hns⟩,.inr .loc,fun x c hc=>?_,fun x y c hx hy=>?_,fun x k hk=>?_,fun a f=>f.elim (fun f=>(e.bnd a f).elim fun o g=>⟨o,kN a o g id⟩) fun f=>?_,fun a b=>.inl (e.bX a b),fun a f b=>(SM hs q f).elim (fun f=>(e.bnd a (e.bX a b)).elim fun o g=>by rw [tO q f] at g; cases g) fun f=>e.fB a f b,e.slots.elim fun V s=>⟨V,?_⟩⟩,fun a=>tO q,kN⟩
 ·cases g:C.hb.get? a with
  |none=>rfl
  |some o=>have:=e.base a o g id; rw [tO q f] at this; cases this
 ·cases nR q hc with
  |new hm lo i m=>exact ⟨.inr (.cell (by rw [gJ,jB]; exact (qU hs hm).l) hc),fun e=>Nat.lt_irrefl _ (e▸lo),_,i⟩
  |old n m=>exact ⟨.inl (e.cellX x c m).1,fun (e:c=h.objs.size)=>(oldC m).elim fun o g=>Nat.ne_of_lt (Heap.lt_size g) e,(e.cellX x c m).2.2.imp fun v hv=>IsCell.keepX hv kN id⟩
 ·cases nR q hx with
  |new hm lo i m=>cases nR q hy with
   |new _ _ _ m'=>exact name_of_addr (CU h sc).apart m m'
   |old n m'=>exact absurd rfl (young m' lo)
  |old n m=>cases nR q hy with
   |new _ lo _ m'=>exact absurd rfl (young m lo)
   |old n m'=>exact e.apart x y c m m'
 ·rw [gJ] at hk
  have kk:=kof (h:=h) (cl:=cl) (env:=env) hk
  cases k with
  | «local»=>exact kk
  |globalImplicit=>exact kk
  |globalExplicit=>exact trivial
  |cell=>exact ⟨kk,SJ hk cl⟩
  |free=>
   obtain ⟨c,hc,f⟩:=SK e hs q (mem_of_lookup hk)
   exact ⟨SL _ f.n kk,c,hc⟩
 ·cases f with
  |loc=>exact hns.elim fun o q=>q.elim fun zz q=>q.elim fun zz q=>⟨o,q.1⟩
  |cell k l=>cases nR q l with
   |new hm lo i m=>exact i.elim fun o q=>⟨o,q.1⟩
   |old n m=>exact (oldC m).elim fun o g=>⟨o,kN _ o g id⟩
 ·have inn:∀{x sl},aD x (jP sc σ)=some sl→aD x σ=some sl:=fun hx=>(tN σ hx).2
  have back:∀{x sl},aD x σ=some sl→∀{a},aT (jV h sc) sl (V x) a→aT h sl (V x) a:=fun hx=>aT.back (s.ok _ _ hx) fun b zz o g=>kN b o g id
  refine ⟨fun x sl hx=>?_,fun x sl hx=>(s.ok x sl (inn hx)).mono fit fun a w=>⟨.inl ((s.ok x sl (inn hx)).owned a w).1,fun o g=>kN a o g id⟩,fun x y sl sl' ne hx hy a wa wb=>s.apart x y sl sl' ne (inn hx) (inn hy) a (back (inn hx) wa) (back (inn hy) wb),fun x sl hx a w f=>?_,fun x sl hx a w=>s.noB x sl (inn hx) a (back (inn hx) w)⟩
  ·have h0:=tN σ hx
   have hk:=dec (show decide (dP x sc.names=some .free)=true from h0.1)
   rw [gJ] at hk
   obtain ⟨c,hc,f⟩:=SK e hs q (mem_of_lookup hk)
   cases s.at_ x sl h0.2 with
   |loc k n e=>exact absurd k f.k
   |cell k l ec=>
    rw [f.c] at l; cases l
    exact .cell (SL _ f.n (kof hk)) hc (IsCell.keepX ec kN id)
  ·have w0:=back (inn hx) w
   exact (SM hs q f).elim (fun f=>((s.ok x sl (inn hx)).owned a w0).2.elim fun o g=>by rw [tO q f] at g; cases g) fun f=>s.fra x sl (inn hx) a w0 f
end
theorem SN {σ₀ σ:Sg}{y:Nm}{v:Slot}(h:vU σ₀ y=true)(hs:∀x sl,aD x σ₀=some sl→aD x σ=some sl):∀x sl,aD x σ₀=some sl→aD x (aU y v σ)=some sl:=fun x sl hx=>by
 rw [lW]
 by_cases e:x=y
 ·have h:(aD y σ₀).isNone=true:=h
  rw [←e,hx] at h; cases h
 ·rw [if_neg e]; exact hs x sl hx
theorem SO {σ₀:Sg}:∀{ts:List NP} {ds:List PV} {σ σ':Sg},(ts.all fun q=>vU σ₀ q.1)=true→(∀x sl,aD x σ₀=some sl→aD x σ=some sl)→nE ts ds σ=some σ'→∀x sl,aD x σ₀=some sl→aD x σ'=some sl
 |[],_,_,_,_,hs,h=>oif h fun zz h=>Option.some.inj h▸hs
 |_::_,[],_,_,_,_,h=>no h
 |q::ts,d::ds,σ,σ',hn,hs,h=>aP hn fun h1 h2=>SO (ts:=ts) (ds:=ds) h2 (SN h1 hs) h
structure aE7 (K:Ks)(t:Tg)(d:PV)(σ σ':Sg):Prop where
 b:bK K t d σ=some σ'
 s:∀x sl,aD x σ=some sl→aD x σ'=some sl
theorem aE8 {K:Ks}{t:Tg}{d:PV}{σ σ':Sg}(h:bindC K t d σ=some σ'):aE7 K t d σ σ':=oif h fun c h=>⟨h,by
 cases t with
 |nm x p=>exact oif h fun zz h=>Option.some.inj h▸SN c fun zz zz h=>h
 |tup ts k p=>exact aB h fun l zz h=>oif h fun zz h=>SO c (fun zz zz h=>h) h⟩
structure tP (K:Ks)(cenv:Env)(D:Addr)(s₀:Shared):Prop where
 nD:s₀.heap.get? D=none
 nF:∀a,dR K cenv a→s₀.heap.get? a=none
structure cH (P:List Value→Prop)(C:Cx)(K:Ks)(Z B:Addr→Prop)(cenv:Env)(D:Addr)(s₀:Shared)(σ:Sg)(ys:List PV)(s:Shared):Prop where
 env:aK C K Z B cenv s.heap σ
 acc:LV (fun zz=>True) s.heap aS (fun its=>Reps C Z s.heap ys its∧P its) (.ref D)
 ext:Ext NoX s₀ s
inductive Wr (K:Ks)(cenv:Env)(D:Addr):Addr→Prop
 |acc:Wr K cenv D D
 |fra {a:Addr} (f:dR K cenv a):Wr K cenv D a
noncomputable abbrev Or2 (X Y:Addr→Prop):Addr→Prop:=fun a=>X a∨Y a
theorem Ext.fresh {W:Addr→Prop}{s₀ s s':Shared}(x:Ext NoX s₀ s)(y:Ext W s s')(hW:∀a,W a→s₀.heap.get? a=none):Ext NoX s₀ s':=
 ⟨fun a o g zz=>y.keep a o (x.keep a o g id) fun w=>(by rw [hW a w] at g; cases g),y.os.trans x.os,y.gens.trans x.gens⟩
section
variable {C:Cx}{K:Ks}{P:List Value→Prop}{Z Z' B B' W:Addr→Prop}{cenv:Env}{D:Addr}{s₀ s s':Shared}{σ σ':Sg}{ys:List PV}
theorem tQ {h h':Heap}(r:LV (fun zz=>True) h aS (fun its=>Reps C Z h ys its∧P its) (.ref D))(g:∀o,h.get? D=some o→h'.get? D=some o)(fit:Fit Z Z' h h'):LV (fun zz=>True) h' aS (fun its=>Reps C Z' h' ys its∧P its) (.ref D):=by
 cases r with |mk x e r=>exact ⟨x,g _ e,Reps.keep fit ys r.1,r.2⟩
theorem cH.nox (i:cH P C K Z B cenv D s₀ σ ys s)(x:Ext NoX s s'):cH P C K Z B cenv D s₀ σ ys s':=⟨i.env.keep x.keep,tQ i.acc (fun o g=>x.keep D o g id) (.nox x.keep),i.ext.trans x⟩
theorem cH.step (i:cH P C K Z B cenv D s₀ σ ys s)(x:Ext W s s')(wB:∀a,W a→B a)(wD:¬ W D)(wn:∀a,W a→s₀.heap.get? a=none)(live:∀a,W a→∃o,s'.heap.get? a=some o):cH P C K Z B cenv D s₀ σ ys s':=by
 have k:=x.keep.mono wB
 exact ⟨i.env.move k (fun zz zz zz=>id) (fun zz zz zz z zz=>z) i.env.bX (fun zz zz zz=>id) i.env.newB fun a z=>(Classical.em (W a)).elim (live a) fun n=>(i.env.bnd a z).elim fun o g=>⟨o,x.keep a o g n⟩,tQ i.acc (fun o g=>x.keep D o g wD) (.of (k.mono i.env.bX)),i.ext.fresh x wn⟩
theorem cH.bind (i:cH P C K Z B cenv D s₀ σ ys s)(fix:tP K cenv D s₀)(hD:B D)(q:StR C K Z B cenv s σ' s'):cH P C K Z B cenv D s₀ σ' ys s':=
 ⟨q.e,tQ i.acc (fun o g=>q.x.keep D o g fun f=>i.env.fB D f.fra hD) (.of (q.x.keep.mono fun zz f=>i.env.fra f.fra)),i.ext.fresh q.x fix.nF⟩
theorem cH.sub (i:cH P C K Z B cenv D s₀ σ' ys s)(hs:∀x sl,aD x σ=some sl→aD x σ'=some sl):cH P C K Z B cenv D s₀ σ ys s:=⟨i.env.sub hs,i.acc,i.ext⟩
theorem cH.drop (i:cH P C K (Or2 Z W) (Or2 B W) cenv D s₀ σ ys s)(x:Ext W s s')(wD:¬ W D)(wn:∀a,W a→s₀.heap.get? a=none)(wZ:∀a,W a→¬ Z a)(bZ:∀a,B a→Z a):cH P C K Z B cenv D s₀ σ ys s':=by
 have k:=x.keep.mono fun a (w:W a)=>(.inr w:B a∨W a)
 have nz:∀a o,s.heap.get? a=some o→¬ Or2 Z W a→¬ Z a:=fun a o g n z=>n (.inl z)
 exact ⟨i.env.move k nz (fun a o g z n=>z.elim id fun w=>absurd (.inr w) n) bZ (fun zz zz zz b=>.inl b) (fun a z=>i.env.newB a (.inl z)) fun a z=>(i.env.bnd a (.inl z)).elim fun o g=>⟨o,x.keep a o g fun w=>wZ a w z⟩,tQ i.acc (fun o g=>x.keep D o g wD) ⟨fun a o g n=>x.keep a o g fun w=>n (.inr w),nz⟩,i.ext.fresh x wn⟩
end
section
variable {T:Th}{G:Gl}{A:Around}{X:Addr→Prop}{env:Env}{σ:Sg}{s:Shared}
noncomputable abbrev SP (env:Env)(c:Expr)(r:Bool):Sem (ForInStep Bool):=if r=true then do let ok ←isTrue c env (eval c env); pure (ForInStep.yield ok) else pure (ForInStep.yield r)
theorem SQ {M:Model}:∀l:List Expr,Tr M A (forIn l false (SP env)) s (VR s false)
 |[]=>fun Q E k=>by rw [List.forIn_nil]; exact wpAny_pure (k _ _ ⟨Ext.refl _ _,rfl⟩)
 |e::r=>fun Q E k=>by rw [List.forIn_cons]; exact wpAny_bind (wpAny_pure (SQ r Q E k))
theorem aE9 {ifs:List E}(hs:aZ (dC T G) ifs):∀{b:Bool} {s:Shared},trs G .And ifs σ=some b→bE T G σ A X env s→Tr (model T.prog T.w) A (forIn (bs ifs) true (SP env)) s (VR s b):=by
 induction hs with
 |nil=>
  exact fun h c=>aQ h fun Q E k=>by
   rw [show bs []=[] from rfl,List.forIn_nil]
   exact wpAny_pure (k _ _ ⟨Ext.refl _ _,rfl⟩)
 |cons p q ih=>
  exact fun h c=>aB h fun t ht h Q E k=>by
   rw [show ∀e r,bs (e::r)=e.b::bs r from fun zz zz=>rfl,List.forIn_cons]
   refine wpAny_bind (wpAny_bind (p σ t ht A X env _ c _ E fun b' s₁ q1=>wpAny_pure ?_))
   cases q1.e
   cases t with
   |false=>exact SQ _ Q E fun b' s₂ q2=>k _ _ ⟨q1.x.trans q2.x,q2.e.trans (Option.some.inj h)⟩
   |true=>exact ih h (c.ext q1.x) Q E fun b' s₂ q2=>k _ _ ⟨q1.x.trans q2.x,q2.e⟩
end
theorem aEA {f:PV→Option (List PV)}{x:PV}{r l:List PV}{G:Prop}(h:compLoop f (x::r)=some l)(k:∀a b,f x=some a→compLoop f r=some b→l=a++b→G):G:=by
 rw [nA] at h
 cases hf:f x with
 |none=>rw [hf] at h; cases h
 |some a=>cases hb:compLoop f r with
  |none=>rw [hf,hb] at h; cases h
  |some b=>rw [hf,hb] at h; exact k a b hf hb (Option.some.inj h).symm
noncomputable def CV (p:Pos)(t:Expr)(ifs:List Expr)(it:Value)(env:Env)(emit:Sem Fin)(c:Code):Sem Fin:=do
 standAt p
 match ←pyNext it with
 |none=>pure (.done .next)
 |some v=>
  letOwnedTupleGo t it v
  assign t env v
  let mut ok:=true
  for c in ifs do
   if ok then ok ←isTrue c env (eval c env)
  if ok then emit else again c
structure EmR (P:List Value→Prop)(C:Cx)(K:Ks)(Z B:Addr→Prop)(cenv:Env)(D:Addr)(s₀:Shared)(σ:Sg)(ys:List PV)(c:Code)(s:Shared)(fin:Fin)(s':Shared):Prop where
 e:fin=.again c
 i:cH P C K Z B cenv D s₀ σ ys s'
 k:aG (Wr K cenv D) s.heap s'.heap
noncomputable def CW (P:List Value→Prop)(T:Th)(G:Gl)(A:Around)(Z B:Addr→Prop)(cenv:Env)(D:Addr)(s₀:Shared)(c:Code)(emit:Sem Fin)(out:Sg→Option (List PV)):Prop:=
 ∀σ a ys s,out σ=some a→(ys++a).length≤sizeLine→cH P T.C G.sc Z B cenv D s₀ σ ys s→Tr (model T.prog T.w) A emit s (EmR P T.C G.sc Z B cenv D s₀ σ (ys++a) c s)
inductive SR (P:List Value→Prop)(C:Cx)(K:Ks)(Z B F:Addr→Prop)(cenv:Env)(D:Addr)(s₀:Shared)(σ:Sg)(St:(Addr→Prop)→List PV→Heap→Prop)(f:PV→Option (List PV))(tot:List PV)(sB:Shared)(n:Nat)(s:Shared):Prop
 |mk {l ys r:List PV} (hn:l.length=n) (i:cH P C K (Or2 Z F) (Or2 B F) cenv D s₀ σ ys s) (st:St (Or2 Z F) l s.heap) (hl:compLoop f l=some r) (ht:ys++r=tot) (k:aG (Or2 (Wr K cenv D) F) sB.heap s.heap):SR P C K Z B F cenv D s₀ σ St f tot sB n s
structure SS (Z B F:Addr→Prop)(D:Addr)(s₀:Shared):Prop where
 bD:B D
 bZ:∀a,B a→Z a
 nD:¬ F D
 n0:∀a,F a→s₀.heap.get? a=none
 nZ:∀a,F a→¬ Z a
section
variable {T:Th}{G:Gl}{A:Around}{P:List Value→Prop}{Z B F:Addr→Prop}{cenv:Env}{D:Addr}{s₀:Shared}{σ:Sg}{itv:Value}{t:Tg}{ifs:List E}
theorem CX {elt:Expr}{gens:List Comprehension}{sc:Scope}{pos p:Pos}{depth:Nat}{emit:Sem Fin}{iv:Sg→Option (List PV)}{out:Sg→Option (List PV)}{St:(Addr→Prop)→List PV→Heap→Prop}{R:Result→Shared→Prop}{c:Code}(hc:c=.compLoop (.ListComp elt gens sc pos) depth itv (.ref D) cenv)
  (hturn:PySem.compTurn (.ListComp elt gens sc pos) depth itv (.ref D) cenv=CV p t.b (bs ifs) itv cenv emit c)
  (hh:A.handled=none) (fix:tP G.sc cenv D s₀) (IK:mD (model T.prog T.w) A T.C t itv F St) (ff:SS Z B F D s₀) (hifs:aZ (dC T G) ifs) (pa:T.P A) (hem:CW P T G A (Or2 Z F) (Or2 B F) cenv D s₀ c emit out)
  {l ys r:List PV} {s:Shared} (inv:cH P T.C G.sc (Or2 Z F) (Or2 B F) cenv D s₀ σ ys s) (st:St (Or2 Z F) l s.heap) (hl:compLoop (compTurn G.sc ⟨t,iv,trs G .And ifs⟩ out σ) l=some r) (hz:(ys++r).length≤sizeLine)
  (hR:∀s',cH P T.C G.sc Z B cenv D s₀ σ (ys++r) s'→aG (Or2 (Wr G.sc cenv D) F) s.heap s'.heap→R (.ok .next) s'):codeAny (model T.prog T.w) A c R s:=by
 subst hc
 refine codeAny_loop rfl (SR P T.C G.sc Z B F cenv D s₀ σ St (compTurn G.sc ⟨t,iv,trs G .And ifs⟩ out σ) (ys++r) s) (fun n s₁ hI=>?_) l.length (.mk rfl inv st hl rfl (aG.refl _ _))
 cases hI with | @mk l ys' r' hn i st hl ht kB=>
 show wpAny _ A ((PySem.compTurn (.ListComp elt gens sc pos) depth itv (.ref D) cenv).onRaise (fun x=>do noteFrame x cenv; theTreesLotGoes x)) _ _ s₁
 refine wpAny_noted ?_
 rw [hturn]
 unfold CV
 refine wpAny_bind (wpAny_standAt (wpAny_bind ?_))
 have hF:∀a,F a→Or2 Z F a:=fun zz h=>.inr h
 have toF:∀{s s':Shared},Ext F s s'→aG (Or2 (Wr G.sc cenv D) F) s.heap s'.heap:=fun x=>x.keep.mono fun zz f=>.inr f
 cases l with
 |nil=>
  refine IK.done _ s₁ st hF _ _ fun r₁ s₂ q=>?_
  cases q.e
  have e:ys'=ys++r:=(List.append_nil _).symm.trans ((congrArg (ys'++·) (Option.some.inj hl)).trans ht)
  exact wpAny_pure (hR s₂ (e▸i.drop q.x ff.nD ff.n0 ff.nZ ff.bZ) (kB.trans (toF q.x)))
 |cons d l=>
  refine aEA hl fun a b ha hb hr=>aB ha fun σ' hbt ha=>aB ha fun tb htb ha=>?_
  cases hr
  have bc:=aE8 hbt
  refine IK.next _ d l s₁ st hF _ _ fun v s₂ q=>?_
  dsimp only
  refine wpAny_bind (q _ _ fun zz s₃ q=>?_)
  have i3:=i.step q.x (fun zz f=>.inr f) ff.nD ff.n0 (IK.live _ _ _ q.st)
  refine wpAny_bind (CN hh bc.b i3.env q.i _ _ fun zz s₄ q4=>?_)
  have i4:=i3.bind fix (.inl ff.bD) q4
  have st4:St (Or2 Z F) l s₄.heap:=IK.keep _ _ _ _ _ q.st (.of (q4.x.keep.mono fun a f=>i3.env.fra f.fra)) fun a o fa g=>q4.x.keep a o g fun f=>i3.env.fB a f.fra (.inr fa)
  refine wpAny_bind (aE9 hifs htb ⟨pa,i4.env.off⟩ _ _ fun ok s₅ q5=>?_)
  cases q5.e
  have i5:=i4.nox q5.x
  have st5:St (Or2 Z F) l s₅.heap:=IK.keep _ _ _ _ _ st4 (.nox q5.x.keep) fun a o zz g=>q5.x.keep a o g id
  have k5:=(kB.trans (toF q.x)).trans ((q4.x.keep.mono fun a f=>(.inl (.fra f):Or2 (Wr G.sc cenv D) F a)).trans q5.x.keep.any)
  have hlt:l.length<n:=hn▸Nat.lt_succ_self _
  cases tb with
  |false=>
   cases ha
   exact wpAny_pure ⟨rfl,l.length,hlt,.mk rfl (i5.sub bc.s) st5 hb ht k5⟩
  |true=>
   have e:(ys'++a)++b=ys++r:=(List.append_assoc ..).trans ht
   refine hem σ' a ys' s₅ ha (Nat.le_trans (by rw [←e,List.length_append (bs:=b)]; exact Nat.le_add_right _ _) hz) i5 _ _ fun fin s₆ q6=>?_
   cases q6.e
   have wZ:∀a,Wr G.sc cenv D a→Or2 Z F a:=fun a h=>by
    cases h with
    |acc=>exact .inl (ff.bZ D ff.bD)
    |fra f=>exact i5.env.fra f.fra
   have wF:∀a,F a→¬ Wr G.sc cenv D a:=fun a fa h=>by
    cases h with
    |acc=>exact ff.nD fa
    |fra f=>exact i5.env.fB a f.fra (.inr fa)
   exact ⟨rfl,l.length,hlt,.mk rfl (q6.i.sub bc.s) (IK.keep _ _ _ _ _ st5 (.of (q6.k.mono wZ)) fun a o fa g=>q6.k a o g (wF a fa)) hb e (k5.trans (q6.k.mono fun zz h=>.inl h))⟩
end
section
variable {C:Cx}{K:Ks}{P:List Value→Prop}{Z B N W:Addr→Prop}{env cenv:Env}{D:Addr}{h h':Heap}{s₀ s s':Shared}{σ:Sg}{ys:List PV}
theorem aK.wr (e:aK C K Z B env h σ)(k:aG W h h')(wB:∀a,W a→B a)(live:∀a,W a→∃o,h'.get? a=some o):aK C K Z B env h' σ:=
 e.move (k.mono wB) (fun zz zz zz=>id) (fun zz zz zz z zz=>z) e.bX (fun zz zz zz=>id) e.newB fun a z=>(Classical.em (W a)).elim (live a) fun n=>(e.bnd a z).elim fun o g=>⟨o,k a o g n⟩
theorem aK.grow (e:aK C K Z B env h σ)(k:aG NoX h h')(new:∀a,N a→h.get? a=none)(live:∀a,N a→∃o,h'.get? a=some o):aK C K (Or2 Z N) (Or2 B N) env h' σ:=by
 have nn:∀{a o},h.get? a=some o→¬ N a:=fun g n=>by rw [new _ n] at g; cases g
 exact e.move k.any (fun a o g nz f=>f.elim nz (nn g)) (fun zz zz zz z zz=>.inl z) (fun a f=>f.imp (e.bX a) id) (fun a o g f=>f.elim id fun n=>absurd n (nn g)) (fun a f=>f.elim (e.newB a) fun n=>by
  cases g:C.hb.get? a with
  |none=>rfl
  |some o=>exact absurd n (nn (e.base a o g id))) fun a f=>f.elim (fun z=>(e.bnd a z).elim fun o g=>⟨o,k a o g id⟩) (live a)
theorem cH.grow (i:cH P C K Z B cenv D s₀ σ ys s)(x:Ext NoX s s')(new:∀a,N a→s.heap.get? a=none)(live:∀a,N a→∃o,s'.heap.get? a=some o):cH P C K (Or2 Z N) (Or2 B N) cenv D s₀ σ ys s':=
 ⟨i.env.grow x.keep new live,tQ i.acc (fun o g=>x.keep D o g id) ⟨x.keep.any,fun a o g nz f=>f.elim nz fun n=>by rw [new a n] at g; cases g⟩,i.ext.trans x⟩
end
noncomputable def xB (elt:Expr)(acc:Value)(cenv:Env):Sem Unit:=do let _ ←call (.builtin "list.append") [acc,←eval elt cenv]
noncomputable def CY (e it1:Expr)(acc:Value)(cenv:Env)(c:Code):Sem Fin:=do
 let x ←eval it1 cenv
 standAt it1.pos
 let x ←foldedSetIterable it1 cenv x
 let _ ←runOwn (.compStart e 1 (←holding [x] (pyIter x)) acc cenv) cenv
 again c
theorem CZ {G:Gl}{it:It}{σ:Sg}{xs:List PV}(h:tC G it σ=some xs)(env:Env)(x:Value):foldedSetIterable it.b env x=pure x:=by
 cases it with
 |val e=>cases e <;> first |rfl |exact no h
 |_=>rfl
inductive mE (T:Th)(G G':Gl):Gn→Prop
 |mk {t:Tg} {it:It} {ifs:List E} (i:tOk t it=true→nQ T G it t) (f:aZ (dC T G') ifs):mE T G G' (.mk t it ifs)
section
variable {T:Th}{G:Gl}{A:Around}{P:List Value→Prop}{Z B F:Addr→Prop}{cenv:Env}{D:Addr}{s₀:Shared}{σ:Sg}{c:Code}
noncomputable def ST (s:Shared)(its:List Value):Prop:=∀b,Value.ref b∈its→∃o,s.heap.get? b=some o
theorem Rep.live {C:Cx}{X:Addr→Prop}{h:Heap}{d:PV}{b:Addr}(r:Rep C X h d (.ref b)):∃o,h.get? b=some o:=by
 cases d with
 |list l=>cases r with |mk x g r=>exact ⟨_,g⟩
 |tuple l=>cases r with |mk x g r=>exact ⟨_,g⟩
 |inst l=>cases r with |mk x x' ne g=>exact ⟨_,g⟩
 |none=>cases r
 |bool b=>cases r
 |int i=>cases r
 |str l=>cases r
 |bytes l=>cases r
theorem Reps.live {C:Cx}{X:Addr→Prop}:∀{ds:List PV} {vs:List Value} {s:Shared},Reps C X s.heap ds vs→ST s vs
 |[],_,_,r,b,m=>by cases r; cases m
 |d::ds,_,s,r,b,m=>by
  cases r with |mk p q=>
  cases m with
  |head=>exact p.live
  |tail _ m=>exact Reps.live q b m
structure PR1 (P:List Value→Prop)(C:Cx)(X:Addr→Prop)(s₀ s:Shared)(d:EV)(v:Value)(s':Shared):Prop where
 e:ER C X s d v s'
 p:Ext NoX s₀ s→∀its,ST s its→P its→P (its++[v])
noncomputable def mF (P:List Value→Prop)(T:Th)(G:Gl)(s₀:Shared)(e:E):Prop:=∀σ d,ev G e σ=some d→∀A X env s,bE T G σ A X env s→Tr (model T.prog T.w) A (eval e.b env) s (PR1 P T.C X s₀ s d)
noncomputable abbrev NoP:List Value→Prop:=fun zz=>True
theorem aF.ps {e:E}(h:aF T G e):mF NoP T G s₀ e:=fun σ d hd A X env s c Q E k=>h σ d hd A X env s c Q E fun v s' q=>k v s' ⟨q,fun zz zz zz zz=>trivial⟩
theorem iF.ps {e:E}(h:iF T G e)(hl:∀σ d,ev G e σ=some d→(∃xs,d=.v (.list xs))∨∀C X h v a,aV C X h d v→v≠.ref a):mF (FrI s₀) T G s₀ e:=fun σ d hd A X env s c Q E k=>h σ d hd A X env s c Q E fun v s' q=>k v s' ⟨q.e,fun x its hv p=>by
 have main:(∀a,v=.ref a→s.heap.get? a=none)→FrI s₀ (its++[v]):=fun hn=>
  ⟨List.pairwise_append.mpr ⟨p.nd,List.pairwise_singleton _ _,fun u hu w hw a e e2=>by
   cases List.mem_singleton.mp hw
   exact (hv a (e▸hu)).elim fun o g=>by rw [hn a e2] at g; cases g⟩,fun a m=>(List.mem_append.mp m).elim (p.nw a) fun m=>x.old (hn a (List.mem_singleton.mp m).symm)⟩
 refine (hl σ d hd).elim (fun ⟨xs,e⟩=>?_) fun n=>main fun a e=>absurd e (n _ _ _ _ a q.e.r)
 cases e
 cases q.f xs rfl with | @mk a _ _ nw fi g r=>exact main fun b e=>by cases e; exact nw⟩
theorem SU {elt:E}(he:mF P T G s₀ elt)(pa:T.P A)(fix:tP G.sc cenv D s₀)(hD:B D):CW P T G A Z B cenv D s₀ c (xB elt.b (.ref D) cenv>>=fun zz=>again c) (jQ G.sc (ev G elt) []):=fun σ a ys s ho hz i=>
 aO (G:=fun a=>(ys++a).length≤sizeLine→Tr (model T.prog T.w) A _ s (EmR P T.C G.sc Z B cenv D s₀ σ (ys++a) c s)) ho (fun d hd hz Q E k=>by
  unfold xB
  refine wpAny_bind (wpAny_bind (he σ _ (bR hd) A Z cenv s ⟨pa,i.env.off⟩ _ E fun v s₁ q0=>?_))
  have q:=q0.e
  have i1:=i.nox q.x
  cases hacc0:i.acc with | @mk _ its n x0 g0 r0=>
  cases hacc:i1.acc with | @mk _ its1 n1 x g r=>
  have pn:=q0.p i.ext its r0.1.live r0.2
  cases (q.x.keep _ _ g0 id).symm.trans g
  have r:=r.1
  have hlen:its.length≤sizeLine:=r.length▸Nat.le_trans (by rw [List.length_append]; exact Nat.le_add_right _ _) hz
  refine wpAny_bind (wpAny_list_append_plain (items:=its.toArray) ⟨n,g⟩ (fun h' hl hs=>wpAny_pure ?_) hlen)
  cases hl with |intro n' g'=>
  rw [List.push_toArray] at g'
  have kD:aG (fun a=>a=D) s₁.heap h':=fun a o g na=>(hs.2 a na).trans g
  have fit:Fit Z Z s₁.heap h':=.of (kD.mono fun a e=>e▸i.env.bX D hD)
  have rd:Reps T.C Z h' [d] [v]:=⟨Rep.keep fit d q.r,rfl⟩
  exact wpAny_pure (k _ _ ⟨rfl,⟨i1.env.wr kD (fun a e=>e▸hD) fun a e=>⟨_,e▸g'⟩,⟨trivial,g',Reps.append rd (Reps.keep fit ys r),pn⟩,i1.ext.fresh ⟨kD,rfl,rfl⟩ fun a e=>e▸fix.nD⟩,q.x.keep.any.trans (kD.mono fun a e=>e▸.acc)⟩)) hz
theorem SV {elt t iter:Expr}{ifs:List Expr}{gens:List Comprehension}{sc:Scope}{pos:Pos}{d:Nat}{it acc:Value}{env:Env}{R:Result→Shared→Prop}{s:Shared}{prog:Program}{w:World}(hg:gens[d]?=some ⟨t,iter,ifs,0⟩)
  (h0:codeAny (model prog w) A (.compLoop (.ListComp elt gens sc pos) d it acc env) R s)
  (h:∀Q E,Q it s→wpAny (model prog w) A (pyIter it) Q E s):codeAny (model prog w) A (.compStart (.ListComp elt gens sc pos) d it acc env) R s:=by
 refine codeAny_of_tree ?_
 show wpAny _ _ ((compStart (.ListComp elt gens sc pos) d it acc env).onRaise (fun x=>do noteFrame x env; standAt theWindowsPlace)) _ _ s
 refine wpAny_notedAt ?_
 unfold compStart
 have hc:(clausesOf (.ListComp elt gens sc pos))[d]?=some ⟨t,iter,ifs,0⟩:=hg
 rw [hc]
 show wpAny _ _ (ask>>=_) _ _ s
 refine wpAny_bind (wpAny_askSetting (wpAny_ite ?_))
 split
 ·first
   |exact wpAny_bind (wpAny_pure (wpAny_pure (And.intro rfl h0)))
   |exact wpAny_pure (And.intro rfl h0)
 ·refine wpAny_bind (wpAny_rule ?_)
  refine wpAny_bind (wpAny_standAt ?_)
  exact wpAny_bind (h _ _ (wpAny_pure (And.intro rfl h0)))
theorem aEB {elt:E}{t t1:Tg}{it it1:It}{ifs ifs1:List E}{sc:Scope}{pos:Pos}(hh:A.handled=none)(he:mF P T G s₀ elt)(h1:mE T G G (.mk t1 it1 ifs1))(pa:T.P A)(fix:tP G.sc cenv D s₀)(hD:B D):
  CW P T G A Z B cenv D s₀ c (CY (.ListComp elt.b [(Gn.mk t it ifs).b,(Gn.mk t1 it1 ifs1).b] sc pos) it1.b (.ref D) cenv c) (jQ G.sc (ev G elt) (gens G [.mk t1 it1 ifs1])):=fun σ a ys s ho hz i Q E k=>
 aB ho fun xs hxs hl=>oif hxs fun htok hxs=>by
  cases h1 with |mk hi hifs1=>
  unfold CY
  refine wpAny_bind (hi htok σ xs hxs A Z cenv s ⟨pa,i.env.off⟩ _ E fun xv s₁ q=>wpAny_bind (wpAny_standAt ?_))
  rw [CZ hxs]
  refine wpAny_bind (wpAny_pure (wpAny_bind (wpAny_holding (q _ _ fun itv s₂ m=>?_))))
  cases m with | @mk F1 St1 x2 IK1 f1 st1=>
  have ex:∀{a o},s.heap.get? a=some o→¬ F1 a:=fun g f=>by rw [f1 _ f] at g; cases g
  refine wpAny_bind (wpAny_runOwn (SV rfl ?_ fun Q' E' h=>IK1.self _ _ _ _ _ st1 h))
  refine CX rfl (show PySem.compTurn (.ListComp elt.b [(Gn.mk t it ifs).b,(Gn.mk t1 it1 ifs1).b] sc pos) 1 itv (.ref D) cenv=CV it1.b.pos t1.b (bs ifs1) itv cenv (xB elt.b (.ref D) cenv>>=fun zz=>again _) _ from rfl) hh fix IK1 ⟨hD,i.env.bX,fun f=>?_,fun a f=>?_,fun a f z=>(i.env.bnd a z).elim fun o g=>ex g f⟩ hifs1 pa (SU he pa fix (.inl hD)) (i.grow x2 f1 (IK1.live _ _ _ st1)) st1 hl hz fun s' i' k'=>?_
  ·cases i.acc with |mk x g r=>exact ex g f
  ·exact i.ext.old (f1 a f)
  ·exact wpAny_pure (k _ _ ⟨rfl,i',fun b o g nb=>k' b o (x2.keep b o g id) fun f=>f.elim nb (ex g)⟩)
end
section
variable {M:Model}{A:Around}{E:Value→Shared→Prop}{s:Shared}
theorem aEC {sc:Scope}{cl:List (PySem.Str × Addr)}{env:Env}{Q:Env→Shared→Prop}
  (h:Q (newEnv sc s.heap.objs.size env.globals (cellsFrom (s.heap.objs.size+1) sc.names cl) env.qual none .none (some env) builtinsNs) {s with heap:=jV s.heap sc}) :
  wpAny M A (newFunctionEnv sc env.globals cl [] env.qual none .none (some env)) Q E s:=by
 simp only [newFunctionEnv,Option.isSome_some,if_true]
 refine wpAny_bind (wpAny_alloc ?_)
 refine wpAny_bind (wpAny_layCells _ (fun name kind cells=>by cases hkc:kind==NameKind.cell <;> simp [hkc]) _ _ _ _ ?_)
 rw [show ({s with heap:=s.heap.push {cls:=.type "dict",data:=.dict #[]}}:Shared).heap.objs.size=s.heap.objs.size+1 from Heap.size_push ..]
 refine wpAny_bind ?_
 rw [List.forIn_nil]
 exact wpAny_pure (wpAny_pure h)
end
structure tR (P:List Value→Prop)(C:Cx)(X:Addr→Prop)(s:Shared)(l:List PV)(D L:Addr)(s':Shared):Prop where
 ext:Ext NoX s s'
 newD:s.heap.get? D=none
 newL:s.heap.get? L=none
 ne:D≠L
 ns:∃m,s'.heap.Ns L m
 acc:LV (fun zz=>True) s'.heap aS (fun its=>Reps C (Or2 (Or2 X fun a=>a=D) fun a=>a=L) s'.heap l its∧P its) (.ref D)
structure nU (T:Th)(G:Gl)(elt:E)(g:Gn)(gs:List Gn)(sc:Scope):Prop where
 f:fU elt=true→iF T {G with sc:=sc.names} elt
 elt:aF T {G with sc:=sc.names} elt
 g:mE T G {G with sc:=sc.names} g
 gs:∀g'∈gs,mE T {G with sc:=sc.names} {G with sc:=sc.names} g'
section
variable {T:Th}{G:Gl}{A:Around}{P:List Value→Prop}{Z B F:Addr→Prop}{cenv:Env}{D:Addr}{s₀:Shared}{σ:Sg}
theorem aED {elt:E}{t:Tg}{it:It}{ifs:List E}{gs:List Gn}{sc:Scope}{pos:Pos}{St:(Addr→Prop)→List PV→Heap→Prop}{itv:Value}(hh:A.handled=none)(he:mF P T G s₀ elt)(hi:aZ (dC T G) ifs)(hg:∀g'∈gs,mE T G G g')(hn:gs.length≤1)(pa:T.P A)(fix:tP G.sc cenv D s₀)
  (IK:mD (model T.prog T.w) A T.C t itv F St) (ff:SS Z B F D s₀) {xs l:List PV} {s:Shared} (i:cH P T.C G.sc (Or2 Z F) (Or2 B F) cenv D s₀ σ [] s) (st:St (Or2 Z F) xs s.heap)
  (hl:compLoop (compTurn G.sc (gen1 G (.mk t it ifs)) (jQ G.sc (ev G elt) (gens G gs)) σ) xs=some l) (hz:l.length≤sizeLine) {R:Result→Shared→Prop} (hR:∀s',cH P T.C G.sc Z B cenv D s₀ σ l s'→R (.ok .next) s') :
  codeAny (model T.prog T.w) A (.compStart (.ListComp elt.b ((Gn.mk t it ifs).b::gbs gs) sc pos) 0 itv (.ref D) cenv) R s:=by
 refine SV rfl ?_ fun Q' E' h=>IK.self _ _ _ _ _ st h
 cases gs with
 |nil=>exact CX (emit:=xB elt.b (.ref D) cenv>>=fun zz=>again _) rfl rfl hh fix IK ff hi pa (SU he pa fix (.inl ff.bD)) i st hl hz fun s' i' zz=>hR s' i'
 |cons g1 gs=>cases gs with
  |nil=>
   cases g1 with |mk t1 it1 ifs1=>
   exact CX (emit:=CY (.ListComp elt.b [(Gn.mk t it ifs).b,(Gn.mk t1 it1 ifs1).b] sc pos) it1.b (.ref D) cenv _) rfl rfl hh fix IK ff hi pa (aEB hh he (hg _ (.head _)) pa fix (.inl ff.bD)) i st hl hz fun s' i' zz=>hR s' i'
  |cons g2 gs=>exact absurd (Nat.le_of_succ_le_succ hn) (Nat.not_succ_le_zero _)
end
section
variable {T:Th}{G:Gl}{A:Around}{P:List Value→Prop}{X:Addr→Prop}{env:Env}{σ:Sg}{s:Shared}{E:Value→Shared→Prop}{Q:Value→Shared→Prop}
theorem aK.congr {C:Cx}{K:Ks}{X X' B B':Addr→Prop}{h:Heap}(e:aK C K X B env h σ)(hx:∀a,X a↔X' a)(hb:∀a,B a↔B' a):aK C K X' B' env h σ:=by
 rw [show X'=X from funext fun a=>propext (hx a).symm,show B'=B from funext fun a=>propext (hb a).symm]
 exact e
theorem aEE {elt:V.E}{t:Tg}{it:It}{ifs:List V.E}{gs:List Gn}{sc:Scope}{pos:Pos}{xs l:List PV}{F:Addr→Prop}{St:(Addr→Prop)→List PV→Heap→Prop}{itv:Value}{s₂ s4:Shared}{h3:Heap}{D:Addr}{cenv:Env}{R:Result→Shared→Prop}(he:mF P T {G with sc:=sc.names} s elt)(hi:aZ (dC T {G with sc:=sc.names}) ifs)
  (hg:∀g'∈gs,mE T {G with sc:=sc.names} {G with sc:=sc.names} g') (hh:A.handled=none) (hn:gs.length≤1) (pa:T.P A) (hz:l.length≤sizeLine)
  (hl:compLoop (compTurn sc.names (gen1 {G with sc:=sc.names} (.mk t it ifs)) (jQ sc.names (ev {G with sc:=sc.names} elt) (gens {G with sc:=sc.names} gs)) (jP sc σ)) xs=some l) (bX:∀a,X a→∃o,s.heap.get? a=some o)
  (IK:mD (model T.prog T.w) A T.C t itv F St) (x2:Ext NoX s s₂) (f2:∀a,F a→s.heap.get? a=none) (st2:St (fun a=>X a∨F a) xs s₂.heap) (hD:s₂.heap.get? D=none) (k23:aG NoX s₂.heap h3) (gD:h3.get? D=some (aS [] 0))
  (ce:SI T.C (Or2 X (Or2 (fun a=>a=D) F)) (Or2 NoX (Or2 (fun a=>a=D) F)) env h3 sc cenv s4.heap σ) (x24:Ext NoX s₂ s4) (p0:P []) (hP:∀L s',tR P T.C X s l D L s'→cenv.locals=L→R (.ok .next) s') :
  codeAny (model T.prog T.w) A (.compStart (.ListComp elt.b ((Gn.mk t it ifs).b::gbs gs) sc pos) 0 itv (.ref D) cenv) R s4:=by
 have lF:=IK.live _ _ _ st2
 have nw2:∀{a o},dR sc.names cenv a→s₂.heap.get? a=some o→False:=fun f g=>by have:=ce.nw _ f; rw [k23 _ _ g id] at this; cases this
 have nw:∀a,dR sc.names cenv a→s.heap.get? a=none:=fun a f=>by
  cases g:s.heap.get? a with
  |none=>rfl
  |some o=>exact (nw2 f (x2.keep _ _ g id)).elim
 have nFD:¬ F D:=fun f=>(lF D f).elim fun o g=>by rw [hD] at g; cases g
 refine aED (G:={G with sc:=sc.names}) (Z:=Or2 (Or2 X fun a=>a=D) (dR sc.names cenv)) (B:=fun a=>a=D) (D:=D) (s₀:=s) hh he hi hg hn pa ⟨x2.old hD,nw⟩ IK ⟨rfl,fun a e=>.inl (.inr e),nFD,f2,fun a f z=>z.elim (fun z=>z.elim (fun x=>(bX a x).elim fun o g=>by rw [f2 a f] at g; cases g) fun e=>nFD (e▸f)) fun w=>(lF a f).elim fun o g=>nw2 w g⟩
  ⟨ce.e.congr (fun a=>⟨fun z=>z.elim (fun z=>z.elim (fun x=>.inl (.inl (.inl x))) fun z=>z.elim (fun e=>.inl (.inl (.inr e))) .inr) fun f=>.inl (.inr f),fun z=>z.elim (fun z=>z.elim (fun z=>z.elim (fun x=>.inl (.inl x)) fun e=>.inl (.inr (.inl e))) .inr) fun f=>.inl (.inr (.inr f))⟩) fun a=>⟨fun z=>z.elim nofun id,.inr⟩,⟨trivial,ce.k _ _ gD id,rfl,p0⟩,x2.trans x24⟩
  (IK.keep _ _ _ _ _ st2 ⟨x24.keep.any,fun a o g n z=>z.elim (fun z=>z.elim (fun z=>z.elim (fun x=>n (.inl x)) fun e=>by rw [e,hD] at g; cases g) fun f=>nw2 f g) fun f=>n (.inr f)⟩ fun a o zz g=>x24.keep a o g id) hl hz fun s' i=>hP _ s' ⟨i.ext,x2.old hD,nw _ .loc,fun e=>(by have:=ce.nw _ (e▸.loc:dR sc.names cenv D); rw [gD] at this; cases this),i.env.ns,?_⟩ rfl
 exact LV.map i.acc (fun zz zz zz g=>⟨trivial,g⟩) fun zz r=>⟨Reps.keep ⟨aG.refl _ _,fun a o g n z=>n (z.elim .inl fun e=>.inr (e▸.loc))⟩ l r.1,r.2⟩
theorem SW {elt:V.E}{g:Gn}{gs:List Gn}{sc:Scope}{pos:Pos}{use:Option (Value→Sem Unit)}{xs l:List PV}(hp:nU T G elt g gs sc)(hel:mF P T {G with sc:=sc.names} s elt)(p0:P [])(hh:A.handled=none)(hn:gs.length≤1)(hs:iZ G.sc sc=true)(hxs:gen0 G g σ=some xs)
  (hl:compLoop (compTurn sc.names (gen1 {G with sc:=sc.names} g) (jQ sc.names (ev {G with sc:=sc.names} elt) (gens {G with sc:=sc.names} gs)) (jP sc σ)) xs=some l) (hz:l.length≤sizeLine) (c:bE T G σ A X env s)
  (hP:∀D L s',tR P T.C X s l D L s'→compPost (model T.prog T.w) A E use Q (.ref D) L (.ok .next) s') :
  wpAny (model T.prog T.w) A (comprehension (.ListComp elt.b (g.b::gbs gs) sc pos) sc env (firstIterPos (g.b::gbs gs) pos) (newList []) false (eval (Comprehension.iter g.b) env) use) Q E s:=by
 cases hp.g with | @mk t it ifs hit hif=>
 refine oif hxs fun htok hxs=>?_
 obtain ⟨cl,hc1,q⟩:=aE4 c.e hs
 refine wpAny_comprehension_free (use:=use) rfl (fun x=>CZ hxs env x) hc1 (SF hs) (fun x hx hloc=>by rw [←hloc]; exact (qU hs hx).l) ?_
 refine hit htok σ xs hxs A X env s c _ E fun xv s₁ q1=>q1 _ _ fun itv s₂ m=>?_
 cases m with | @mk F St x2 IK f2 st2=>
 refine wpAny_newObj_type (aEC ?_)
 dsimp only
 have hD:s₂.heap.get? s₂.heap.objs.size=none:=jE (Nat.le_refl _)
 have k23:aG NoX s₂.heap (s₂.heap.push (aS [] 0)):=aG.push _ _ _
 have gD:(s₂.heap.push (aS [] 0)).get? s₂.heap.objs.size=some (aS [] 0):=Heap.get?_push_size _ rfl
 show codeAny _ A (.compStart (.ListComp elt.b ((Gn.mk t it ifs).b::gbs gs) sc pos) 0 itv (.ref s₂.heap.objs.size) (gN (s₂.heap.push (aS [] 0)) sc cl env)) _ {s₂ with heap:=jV (s₂.heap.push (aS [] 0)) sc}
 generalize s₂.heap.objs.size=D at hD gD ⊢
 generalize s₂.heap.push (aS [] 0)=h3 at k23 gD ⊢
 have e3:=c.e.grow (N:=Or2 (fun a=>a=D) F) (x2.keep.trans k23) (fun a f=>f.elim (fun e=>e▸x2.old hD) (f2 a)) fun a f=>f.elim (fun e=>⟨_,e▸gD⟩) fun f=>(IK.live _ _ _ st2 a f).elim fun o g=>⟨o,k23 a o g id⟩
 have ce:=aE6 e3 hs q
 exact aEE hel hif hp.gs hh hn c.pa hz hl c.e.bnd IK x2 f2 st2 hD k23 gD ce ⟨k23.trans ce.k,rfl,rfl⟩ p0 fun L s' d e=>e▸hP D L s' d
end
structure aEF (G:Gl)(elt:E)(g:Gn)(gs:List Gn)(sc:Scope)(σ:Sg)(xs l:List PV):Prop where
 hs:iZ G.sc sc=true
 hn:gs.length≤1
 hxs:gen0 G g σ=some xs
 hl:compLoop (compTurn sc.names (gen1 {G with sc:=sc.names} g) (jQ sc.names (ev {G with sc:=sc.names} elt) (gens {G with sc:=sc.names} gs)) (jP sc σ)) xs=some l
 hz:l.length≤sizeLine
theorem DA {G:Gl}{elt:E}{g:Gn}{gs:List Gn}{sc:Scope}{p:Pos}{σ:Sg}{d:EV}{P:EV→Prop}(h:ev G (.comp elt g gs sc p) σ=some d)(k:∀xs l,aEF G elt g gs sc σ xs l→P (.v (.list l))):P d:=
 oif h fun c h=>aP c fun c1 c2=>aB h fun xs hxs h=>aB h fun l hl h=>oif h fun z h=>aQ h (k xs l ⟨c1,dec c2,hxs,hl,jD z⟩)
theorem aEG {G:Gl}{e:E}{σ:Sg}{d:EV}(hf:fU e=true)(hd:ev G e σ=some d):(∃xs,d=.v (.list xs))∨∀C X h v a,aV C X h d v→v≠.ref a:=by
 cases e with
 |list es p=>exact aB hd fun l hl hd=>oif hd fun zz hd=>aQ hd (.inl ⟨l,rfl⟩)
 |comp elt g gs sc p=>exact DA (P:=fun d=>(∃xs,d=.v (.list xs))∨∀C X h v a,aV C X h d v→v≠.ref a) hd fun xs l zz=>.inl ⟨l,rfl⟩
 |bin l op r p=>
  have int:∀i:Int,∀C X h v a,aV C X h (.v (.int i)) v→v≠.ref a:=fun i C X h v a q e=>by
   have q:dY i v:=q
   cases q; cases e
  have str:∀i:List Nat,∀C X h v a,aV C X h (.v (.str i)) v→v≠.ref a:=fun i C X h v a q e=>by
   have q:iD i v:=q
   cases q; cases e
  refine aB hd fun a ha hd=>aB hd fun b hb hd=>aO (G:=fun d=>(∃xs,d=.v (.list xs))∨∀C X h v a,aV C X h d v→v≠.ref a) hd fun x hx=>?_
  generalize a.pv=p at hx
  cases p with
  |int i=>exact aB hx fun j zz hx=>aO hx fun r zz=>.inr (int r)
  |str i=>cases op <;> first |exact aB hx fun j zz hx=>aO hx fun r zz=>.inr (str r) |exact no hx
  |list i=>cases op <;> first |exact aB hx fun j zz hx=>aO hx fun r zz=>.inl ⟨r,rfl⟩ |exact no hx
  |_=>exact no hx
 |_=>cases hf
noncomputable abbrev FrP (b:Bool)(s:Shared)(its:List Value):Prop:=b=true→FrI s its
theorem FrP.nil {b:Bool}{s:Shared}:FrP b s []:=fun zz=>⟨.nil,nofun⟩
theorem nU.ps {T:Th}{G:Gl}{elt:E}{g:Gn}{gs:List Gn}{sc:Scope}(hp:nU T G elt g gs sc)(p:Pos)(s:Shared):mF (FrP (fr2 (.comp elt g gs sc p)) s) T {G with sc:=sc.names} s elt:=fun σ d hd A X env s c Q E k=>by
 cases hb:fU elt with
 |false=>exact hp.elt σ d hd A X env s c Q E fun v s' q=>k v s' ⟨q,fun zz zz zz zz h=>by rw [show fr2 (.comp elt g gs sc p)=(fU elt && bP gs) from rfl,hb] at h; cases h⟩
 |true=>exact (hp.f hb).ps (fun σ d=>aEG hb) σ d hd A X env s c Q E fun v s' q=>k v s' ⟨q.e,fun x its hv p h=>q.p x its hv (p h)⟩
section
variable {C:Cx}{X:Addr→Prop}{s s':Shared}{l:List PV}{D L:Addr}{b:Bool}
theorem tR.gone (c:tR (FrP b s) C X s l D L s'){h':Heap}(hs:Heap.SameBut L s'.heap h')(bX:∀a,X a→∃o,s.heap.get? a=some o):FR b C X s (.v (.list l)) (.ref D) {s' with heap:=h'}:=by
 have kL:aG (fun a=>a=L) s'.heap h':=fun a o g n=>(hs.2 a n).trans g
 cases hacc:c.acc with |mk x g rp=>
 have r:=rp.1
 have g':=kL _ _ g c.ne
 have r':∀Y:Addr→Prop,(∀a,Y a→Or2 (Or2 X fun a=>a=D) (fun a=>a=L) a)→Reps C Y h' l _:=fun Y hy=>Reps.keep ⟨kL.mono fun a e=>.inr e,fun a o g n y=>n (hy a y)⟩ l r
 exact ⟨⟨c.ext.fresh ⟨kL,rfl,rfl⟩ fun a e=>e▸c.newL,fun x=>(bX D x).elim fun o g=>(by rw [c.newD] at g; cases g),g',r' X fun a x=>.inl (.inl x)⟩,fun ys e=>by cases e; exact ⟨c.newD,rp.2,g',r' _ fun a h=>.inl h⟩⟩
end
theorem aEH {T:Th}{G:Gl}(hG:∀A,T.P A→Bud A){elt:E}{g:Gn}{gs:List Gn}{sc:Scope}{p:Pos}(hp:nU T G elt g gs sc):iF T G (.comp elt g gs sc p):=fun σ d h=>
 DA (P:=fun d=>∀A X env s,bE T G σ A X env s→Tr (model T.prog T.w) A (eval (E.comp elt g gs sc p).b env) s (FR (fr2 (.comp elt g gs sc p)) T.C X s d)) h fun xs l v A X env s c Q E k=>by
  show wpAny _ _ (eval (.ListComp elt.b (g.b::gbs gs) sc p) env) _ _ _
  rw [eval_ListComp]
  cases g
  exact SW (use:=none) hp (hp.ps p s) FrP.nil (hG A c.pa).handled v.hn v.hs v.hxs v.hl v.hz c fun D L s' cd=>cd.ns.imp fun m hm=>⟨hm,fun h' hs'=>k _ _ (cd.gone hs' c.e.bnd)⟩
structure Step (X B X':Addr→Prop)(s s':Shared):Prop where
 g:∀a,X a→X' a
 n:∀a o,s.heap.get? a=some o→¬ X a→¬ X' a
 x:Ext (fun a=>X a∧¬ B a) s s'
inductive tS (C:Cx)(B:Addr→Prop)(h:Heap):Fl→Flow→Prop
 |next:tS C B h .next .next
 |brk:tS C B h .brk .brk
 |ret {d:PV} {v:Value} (r:Rep C B h d v):tS C B h (.ret d) (.ret v)
inductive bV (C:Cx)(K:Ks)(env:Env)(X B:Addr→Prop)(s:Shared)(fl:Fl)(σ:Sg)(f:Flow)(s':Shared):Prop
 |mk {X':Addr→Prop} (t:Step X B X' s s') (e:aK C K X' B env s'.heap σ) (o:tS C B s'.heap fl f):bV C K env X B s fl σ f s'
structure jG (T:Th)(G:Gl)(σ:Sg)(A:Around)(X B:Addr→Prop)(env:Env)(s:Shared):Prop where
 pa:T.P A
 e:aK T.C G.sc X B env s.heap σ
theorem jG.c {T:Th}{G:Gl}{σ:Sg}{A:Around}{X B:Addr→Prop}{env:Env}{s:Shared}(c:jG T G σ A X B env s):bE T G σ A X env s:=⟨c.pa,c.e.off⟩
theorem jG.ext {T:Th}{G:Gl}{σ:Sg}{A:Around}{X B:Addr→Prop}{env:Env}{s s':Shared}(c:jG T G σ A X B env s)(x:Ext NoX s s'):jG T G σ A X B env s':=⟨c.pa,c.e.keep x.keep⟩
noncomputable def jH (T:Th)(G:Gl)(st:S)(σ:Sg)(fl:Fl)(σ':Sg):Prop:=∀A X B env s,jG T G σ A X B env s→Tr (model T.prog T.w) A (exec st.b env) s (bV T.C G.sc env X B s fl σ')
noncomputable def cW (T:Th)(G:Gl)(st:S):Prop:=∀σ fl σ',ex G st σ=some (fl,σ')→jH T G st σ fl σ'
noncomputable def iI (T:Th)(G:Gl)(sts:List S):Prop:=∀σ fl σ',exs G sts σ=some (fl,σ')→∀A X B env s,jG T G σ A X B env s→Tr (model T.prog T.w) A (execs (sbs sts) env) s (bV T.C G.sc env X B s fl σ')
section
variable {C:Cx}{K:Ks}{env:Env}{X X' X'' B:Addr→Prop}{s s' s'':Shared}{fl:Fl}{σ:Sg}{f:Flow}
theorem Step.refl (X B:Addr→Prop)(s:Shared):Step X B X s s:=⟨fun zz=>id,fun zz zz zz=>id,Ext.refl _ _⟩
theorem Step.nox (x:Ext NoX s s'):Step X B X s s':=⟨fun zz=>id,fun zz zz zz=>id,x.any⟩
theorem Step.trans (a:Step X B X' s s')(b:Step X' B X'' s' s''):Step X B X'' s s'':=
 ⟨fun c x=>b.g c (a.g c x),fun c o g n=>b.n c o (a.x.keep c o g fun y=>n y.1) (a.n c o g n),fun c o g n=>b.x.keep c o (a.x.keep c o g n) fun y=>(Classical.em (X c)).elim (fun x=>n ⟨x,y.2⟩) fun x=>a.n c o g x y.1,b.x.os.trans a.x.os,b.x.gens.trans a.x.gens⟩
theorem Step.less {B':Addr→Prop}(a:Step X B' X' s s')(h:∀a,B a→B' a):Step X B X' s s':=⟨a.g,a.n,a.x.mono fun zz y=>⟨y.1,fun b=>y.2 (h _ b)⟩⟩
theorem bV.pre (t:Step X B X' s s')(q:bV C K env X' B s' fl σ f s''):bV C K env X B s fl σ f s'':=by
 cases q with |mk t' e f=>exact ⟨t.trans t',e,f⟩
theorem bV.sub {σ':Sg}(q:bV C K env X B s fl σ' f s')(h:∀x sl,aD x σ=some sl→aD x σ'=some sl):bV C K env X B s fl σ f s':=by
 cases q with |mk t e f=>exact ⟨t,e.sub h,f⟩
theorem bV.nox (e:aK C K X B env s'.heap σ)(x:Ext NoX s s'):bV C K env X B s .next σ .next s':=⟨.nox x,e,.next⟩
theorem aK.fraW (e:aK C K X B env s.heap σ):∀a,dR K env a→X a∧¬ B a:=fun a f=>⟨e.fra f.fra,e.fB a f.fra⟩
theorem StR.out {σ':Sg}(e:aK C K X B env s.heap σ)(q:StR C K X B env s σ' s'):bV C K env X B s .next σ' .next s':=⟨⟨fun zz=>id,fun zz zz zz=>id,q.x.mono e.fraW⟩,q.e,.next⟩
end
section
variable {T:Th}{G:Gl}{t:E}{a b:List S}{p:Pos}
theorem aEI:iI T G []:=fun σ fl σ' h A X B env s c Q E k=>by
 cases h
 exact wpAny_execs_nil (k _ _ (.nox c.e (Ext.refl _ _)))
theorem aEJ {st:S}(h1:cW T G st)(h2:iI T G a):iI T G (st::a):=fun σ fl σ' h A X B env s c Q E k=>by
 have h:nK (ex G st σ) (exs G a)=some (fl,σ'):=h
 cases hx:ex G st σ with
 |none=>rw [hx] at h; cases h
 |some p=>
  obtain ⟨fl1,σ1⟩:=p
  rw [hx] at h
  refine wpAny_execs_cons (h1 σ fl1 σ1 hx A X B env s c _ E fun f s₁ q=>?_)
  cases q with |mk t e hf=>cases hf with
   |next=>exact h2 σ1 fl σ' h A _ B env s₁ ⟨c.pa,e⟩ Q E fun f s₂ q=>k f s₂ (q.pre t)
   |brk=>cases h; exact k _ _ ⟨t,e,.brk⟩
   |ret r=>cases h; exact k _ _ ⟨t,e,.ret r⟩
theorem aEK (ht:dC T G t)(ha:iI T G a)(hb:iI T G b):cW T G (.ife t a b p):=fun σ fl σ' h=>aB h fun c hc h A X B env s x Q E k=>
 wpAny_If (ht σ c hc A X env s x.c _ E fun b' s₁ q=>by
  cases q.e
  cases c with
  |true=>exact ha σ fl σ' h A X B env s₁ (x.ext q.x) Q E fun f s₂ q2=>k f s₂ (q2.pre (.nox q.x))
  |false=>exact hb σ fl σ' h A X B env s₁ (x.ext q.x) Q E fun f s₂ q2=>k f s₂ (q2.pre (.nox q.x)))
theorem aEL:cW T G (.brk p):=fun σ fl σ' h A X B env s c Q E k=>by
 cases h
 exact wpAny_Break (k _ _ ⟨Step.refl _ _ _,c.e,.brk⟩)
theorem aEM:cW T G (.pass p):=fun σ fl σ' h A X B env s c Q E k=>by
 cases h
 exact wpAny_Pass (k _ _ (.nox c.e (Ext.refl _ _)))
inductive SX (T:Th)(G:Gl)(X B:Addr→Prop)(env:Env)(s₀:Shared)(r:Rs)(go:Nat→Sg→Rs)(n:Nat)(s:Shared):Prop
 |mk {X':Addr→Prop} {σ:Sg} (t:Step X B X' s₀ s) (e:aK T.C G.sc X' B env s.heap σ) (h:go n σ=r):SX T G X B env s₀ r go n s
theorem aEN (ht:dC T G t)(ha:iI T G a)(hb:iI T G b):cW T G (.whl t a b p):=fun σ fl σ' h A X B env s c Q E k=>by
 refine wpAny_While (codeAny_whileLoop (SX T G X B env s (some (fl,σ')) (jA (fun σ=>tr G t σ (ev G t σ)) (exs G a) (exs G b))) (fun n s₁ hI=>?_) G.fuel (.mk (Step.refl _ _ _) c.e h))
 cases hI with | @mk X' σ1 t1 e1 h=>
 cases n with
 |zero=>cases h
 |succ n=>
  rw [nJ] at h
  cases htr:tr G t σ1 (ev G t σ1) with
  |none=>rw [htr] at h; cases h
  |some b'=>
   rw [htr] at h
   have c1:jG T G σ1 A X' B env s₁:=⟨c.pa,e1⟩
   refine ht σ1 b' htr A X' env s₁ c1.c _ _ fun b2 s₂ q=>?_
   cases q.e
   cases b' with
   |false=>exact hb σ1 fl σ' h A X' B env s₂ (c1.ext q.x) _ _ fun f s₃ q3=>k f s₃ (q3.pre (t1.trans (.nox q.x)))
   |true=>
    cases hx:exs G a σ1 with
    |none=>rw [hx] at h; cases h
    |some r=>
     obtain ⟨fl2,σ2⟩:=r
     rw [hx] at h
     refine ha σ1 fl2 σ2 hx A X' B env s₂ (c1.ext q.x) _ _ fun f s₃ q3=>?_
     cases q3.pre (t1.trans (.nox q.x)) with |mk t3 e3 hf=>cases hf with
      |next=>exact ⟨n,Nat.lt_succ_self _,t3,e3,h⟩
      |brk=>cases h; exact k _ _ ⟨t3,e3,.next⟩
      |ret r=>cases h; exact k _ _ ⟨t3,e3,.ret r⟩
end
noncomputable def LUp (h:Heap)(l:Addr)(its:List Value)(h':Heap):Prop:=(∃n,h'.get? l=some (aS its n))∧aG (fun a=>a=l) h h'
section
variable {prog:Program}{w:World}{A:Around}{E:Value→Shared→Prop}{s:Shared}{l b:Addr}{its its' its2:List Value}{n n2:Nat}
theorem lup {h:Heap}(g:h.get? l=some (aS its n))(f:Array Value→Array Value)(hf:f its.toArray=its'.toArray):LUp h l its' (h.update l (Obj.mapSeq f)):=by
 refine ⟨?_,fun a o e na=>((Heap.SameBut.update (h:=h) (a:=l) (f:=Obj.mapSeq f)).2 a na).trans e⟩
 have e:Obj.mapSeq f (aS its n)=aS its' (if its'.toArray.size==its.toArray.size then n else n+1):=by
  show ({cls:=.type "list",data:=.seq (f its.toArray) (if ((f its.toArray).size==its.toArray.size) then n else n+1)}:Obj)=_
  rw [hf]
 exact ⟨_,(Heap.get?_update_self _ g (by rw [e]; rfl)).trans (congrArg some e)⟩
theorem aEO:fillsInplaceSlot (.type "list") "add" (Operator.Add==.Add)=pure false:=by
 unfold fillsInplaceSlot
 show (typeLookup (.type "list") (dunderI "add")>>=fun fi=>pure (fi.isSome && !isSeqSlot fi))=pure false
 rw [F.slot_list_iadd.lookup]
 have:((some (Value.builtin "list.__iadd__")).isSome && !isSeqSlot (some (Value.builtin "list.__iadd__")))=false:=by decide +kernel
 show (pure ((some (Value.builtin "list.__iadd__")).isSome && !isSeqSlot (some (Value.builtin "list.__iadd__"))):Sem Bool)=pure false
 rw [this]
theorem aEP {Q:Value→Shared→Prop}(hl:s.heap.get? l=some (aS its n))(hb:s.heap.get? b=some (aS its2 n2))(hz:its.length+its2.length≤sizeLine)
  (h:∀h',LUp s.heap l (its++its2) h'→Q (.ref l) {s with heap:=h'}):wpAny (model prog w) A (inplaceOp .Add (.ref l) (.ref b)) Q E s:=by
 have tl:s.TypeIs (.ref l) "list" := ⟨_,hl,rfl⟩
 have tb:s.TypeIs (.ref b) "list" := ⟨_,hb,rfl⟩
 unfold inplaceOp
 refine wpAny_holding ?_
 refine wpAny_bind (wpAny_typeOf tl (wpAny_bind (wpAny_of_eq aEO ?_)))
 show wpAny _ _ (if false=true then _ else _) Q E s
 rw [if_neg Bool.false_ne_true]
 refine wpAny_bind (wpAny_binaryOp1_none (nm := "add") tl tb PySem.noFill_list_add ?_)
 refine wpAny_bind (wpAny_of_eq (PySem.seqSlot_of F.slot_list_iadd.lookup (by decide +kernel)) ?_)
 have h2:its.toArray.size+its2.toArray.size≤sizeLine:=hz
 exact wpAny_bind (wpAny_rule (call_meets F.slot_list_iadd tl F.entry_list_iadd (F.args_list_iadd_2 _ _) (AutoSeq1.list___iadd___list_list_0 l its.toArray n b its2.toArray n2 (by simp only [Builtin.List.listTooLong,Bool.and_eq_true,decide_eq_true_eq]; exact fun q=>Nat.not_lt.mpr h2 q.2) (Nat.le_trans (Nat.le_add_right _ _) h2) (Nat.le_succ_of_le h2)) ⟨hl,hb,h _ (lup hl (fun x=>x++its2.toArray) (List.append_toArray ..))⟩))
theorem SY {i:Int}{t:Tok}{u v:Value}{Q:Unit→Shared→Prop}(g:s.heap.get? l=some (aS its n)){j:Nat}(q:AtI its i u)(hj:seqIndex? i its.length=some j)
  (h:∀h',LUp s.heap l (its.set j v) h'→Q () {s with heap:=h'}):wpAny (model prog w) A (setItem (.ref l) (.int i t) v) Q E s:=by
 have hl:s.heap.IsList l its.toArray:=⟨_,g,rfl,n,rfl⟩
 unfold setItem
 try with_reducible refine wpAny_holding ?_
 first |refine wpAny_bind (wpAny_pure ?_) |skip
 refine wpAny_bind (wpAny_sequenceKey hl.typeIs (by decide) ?_)
 refine wpAny_bind (wpAny_callSpecial?_slot (name:=Str.ofString "__setitem__") hl.typeIs slot_list_setitem
  (wpAny_call_entry slot_list_setitem hl.typeIs entry_list_setitem ?_ (args_list_setitem _ _ _)))
 show wpAny _ _ (Builtin.List.listSubscript? (.int i t)>>=_) _ _ s
 have hq:=h _ (lup g (fun x=>x.setIfInBounds j v) (List.setIfInBounds_toArray ..))
 have fin:∀{Q':Fin→Shared→Prop} {E':Value→Shared→Prop},(∀f s',f=.done (.ret .none)→Q () s'→Q' f s')→wpAny (model prog w) A.in1 (do setSeqItemAt l j v; ret .none) Q' E' s:=fun k=>wpAny_bind (wpAny_setSeqItemAt g rfl (wpAny_pure (k _ _ rfl hq)))
 cases q with
 |pos z h0 e=>
  refine wpAny_bind (wpAny_listSubscript_int (fitsIndex_of h0 (qL z).1) ?_)
  obtain ⟨k,rfl⟩:=Int.eq_ofNat_of_zero_le h0
  rw [CH h0 e] at hj
  cases hj
  show wpAny _ _ ((seqItemAt l k>>=fun r=>pure (r.map (k,·)))>>=_) _ _ s
  refine wpAny_bind (wpAny_bind (wpAny_seqItemAt g rfl (wpAny_pure ?_)))
  rw [show its.toArray[k]?=some u from (List.getElem?_toArray).trans e]
  exact fin fun f s' e hq=>⟨.none,e,wpAny_pure hq⟩
 |neg z h0 ln e=>
  refine wpAny_bind (wpAny_listSubscript_int (fitsIndex_neg h0 (qL z).2) ?_)
  have hidx:=seqIndex_neg h0 (wO ln)
  rw [hidx] at hj
  cases hj
  cases i with
  |ofNat k=>exact absurd h0 (Int.not_lt.mpr (Int.natCast_nonneg k))
  |negSucc k=>
   show wpAny _ _ ((Builtin.List.listItems (.ref l)>>=fun xs=>pure ((seqIndex? (Int.negSucc k) xs.size).bind fun i=>xs[i]?.map (i,·)))>>=_) _ _ s
   refine wpAny_bind (wpAny_bind ?_)
   show wpAny _ _ (seqItems? (.ref l)>>=_) _ _ s
   refine wpAny_bind (wpAny_seqItems g rfl (wpAny_pure (wpAny_pure ?_)))
   rw [show seqIndex? (Int.negSucc k) its.toArray.size=some (Int.negSucc k+its.length).toNat from hidx,Option.bind_some]
   rw [show its.toArray[(Int.negSucc k+its.length).toNat]?=some u from (List.getElem?_toArray).trans e]
   exact fin fun f s' e hq=>⟨.none,e,wpAny_pure hq⟩
theorem aEQ {v:Value}{Q:Value→Shared→Prop}(g:s.heap.get? l=some (aS its n))(hz:its.length≤sizeLine)(h:∀h',LUp s.heap l (its++[v]) h'→Q .none {s with heap:=h'}):
  wpAny (model prog w) A (call (.builtin "list.append") [.ref l,v]) Q E s:=by
 refine wpAny_call_entry slot_list_append ⟨_,g,rfl⟩ entry_list_append ?_ (args_list_append _ _)
 show wpAny _ _ (updateSeq l (·.push v)>>=fun zz=>ret .none) _ _ s
 exact wpAny_bind (wpAny_updateSeq g rfl (hz:=hz) (wpAny_pure ⟨.none,rfl,h _ (lup g (fun x=>x.push v) (List.push_toArray ..))⟩))
end
theorem jW {o:Option Sg}{fl:Fl}{σ':Sg}{G:Fl→Prop}(h:dA o=some (fl,σ'))(k:o=some σ'→G .next):G fl:=by
 cases o with
 |none=>cases h
 |some σ=>cases h; exact k rfl
theorem Reps.set {C:Cx}{X:Addr→Prop}{h:Heap}{d:PV}{v:Value}(hd:Rep C X h d v):∀{xs:List PV} {its:List Value},Reps C X h xs its→∀j,Reps C X h (xs.set j d) (its.set j v)
 |[],_,r,_=>by cases r; rfl
 |x::xs,_,⟨p,q⟩,0=>⟨hd,q⟩
 |x::xs,_,⟨p,q⟩,j+1=>⟨p,Reps.set hd (xs:=xs) q j⟩
inductive SZ {α:Type}(xs:List α)(i:Int)(d:α):List α→Prop
 |mk {j:Nat} {u:α} (q:AtI xs i u) (hj:seqIndex? i xs.length=some j):SZ xs i d (xs.set j d)
theorem DB {α:Type}{xs l:List α}{i:Int}{d:α}(h:iB xs i d=some l):SZ xs i d l:=dI h fun z h=>by
 have z:i.natAbs≤16777216:=Decidable.byContradiction fun q=>Bool.false_ne_true (z.symm.trans (by rw [decide_eq_false q]; rfl))
 by_cases h0:0≤i
 ·rw [decide_eq_true h0,decide_eq_false (Int.not_lt.mpr h0)] at h
  refine oif (o:=some (xs.set i.toNat d)) (c:=decide (i<xs.length)) (by rw [←h]; cases decide (i<xs.length) <;> rfl) fun c h=>?_
  cases h
  have e:=List.getElem?_eq_getElem (show i.toNat<xs.length from (Int.toNat_lt h0).mpr (dec c))
  exact .mk (.pos z h0 e) (CH h0 e)
 ·have h1:=Int.not_le.mp h0
  rw [decide_eq_false h0] at h
  refine oif h fun c h=>aP c fun zz c=>?_
  cases h
  have e:=List.getElem?_eq_getElem (show (i+xs.length).toNat<xs.length from (Int.toNat_lt (dec c)).mpr (by omega))
  exact .mk (.neg z h1 (dec c) e) (seqIndex_neg h1 (wO (dec c)))
section
variable {C:Cx}{K:Ks}{X B:Addr→Prop}{env:Env}{s:Shared}{σ:Sg}{x:Nm}{sl:Slot}{v:Value}
structure aER (C:Cx)(K:Ks)(X B:Addr→Prop)(env:Env)(s:Shared)(σ:Sg)(x:Nm)(xs:List PV)(a:Addr):Prop where
 n:bJ env s.heap (mkS x) (.ref a)
 q:LV X s.heap aS (Reps C X s.heap xs) (.ref a)
 n':∀{h':Heap} {its':List Value},LUp s.heap a its' h'→bJ env h' (mkS x) (.ref a)
 put:∀{h':Heap} {its':List Value} {xs':List PV},LUp s.heap a its' h'→Reps C X s.heap xs' its'→bV C K env X B s .next (aU x (.own xs') σ) .next {s with heap:=h'}
theorem qV {xs:List PV}(e:aK C K X B env s.heap σ)(hx:aD x σ=some (.own xs)):∃a,aER C K X B env s σ x xs a:=by
 obtain ⟨v,o⟩:=e.own1 hx
 have hr:LV X s.heap aS (Reps C X s.heap xs) v:=o.r
 cases hr with | @mk a _ _ xa g r=>
 refine ⟨a,o.n,⟨xa,g,r⟩,fun u=>o.n.keepF fun b ob f g=>u.2 b ob g fun e=>o.nf a rfl (e▸f),fun u r'=>?_⟩
 obtain ⟨⟨n',g'⟩,k⟩:=u
 exact ⟨⟨fun zz=>id,fun zz zz zz=>id,k.mono fun b e=>e▸o.w a rfl,rfl,rfl⟩,o.put _ (.own _) (k.mono fun b e=>e▸rfl) (fun b w=>by cases w; exact ⟨_,g'⟩) ⟨xa,g',Reps.keep (.of (k.mono fun b e=>e▸xa)) _ r'⟩ fun b w=>w,.next⟩
theorem cP.set {h h':Heap}{b:Addr}{its':List Value}{n':Nat}{xs':List Int}(kp:aG (fun a=>a=b) h h')(hb:X b)(g':h'.get? b=some (aS its' n'))(rd:Reps C X h' (xs'.map .int) its'):∀{t:List (List Int)} {its:List Value} {k:Nat},cP C X h t its→Ap its→its[k]?=some (.ref b)→cP C X h' (t.set k xs') its
 |[],_,_,r,_,e=>by cases r; cases e
 |xs::t,_,0,r,ap,e=>by
  cases r with |mk p q=>
  cases Option.some.inj e
  exact ⟨.mk hb g' rd,cP.map (.of (kp.mono fun a e=>e▸hb)) q fun a m=>⟨(q.row m).1,fun o g=>kp a o g fun e=>(List.pairwise_cons.mp ap).1 _ m b rfl (e▸rfl)⟩⟩
 |xs::t,_,k+1,r,ap,e=>by
  cases r with |mk p q=>
  obtain ⟨a1,a2⟩:=List.pairwise_cons.mp ap
  refine ⟨?_,cP.set kp hb g' rd (k:=k) q a2 e⟩
  cases p with | @mk a _ _ x g p=>
  exact .mk x (kp _ _ g fun e'=>a1 _ (List.mem_of_getElem? e) a rfl (e'▸rfl)) (Reps.keep (.of (kp.mono fun a e=>e▸hb)) _ p)
structure aES (C:Cx)(K:Ks)(X B:Addr→Prop)(env:Env)(s:Shared)(σ:Sg)(x:Nm)(t:List (List Int))(a:Addr):Prop where
 n:bJ env s.heap (mkS x) (.ref a)
 q:tG C X s.heap t (.ref a)
 put:∀{h':Heap} {its its':List Value} {n k:Nat} {b:Addr} {xs':List Int},s.heap.get? a=some (aS its n)→its[k]?=some (.ref b)→LUp s.heap b its' h'→Reps C X s.heap (xs'.map .int) its'→bV C K env X B s .next (aU x (.own2 (t.set k xs')) σ) .next {s with heap:=h'}
theorem DC {t:List (List Int)}(e:aK C K X B env s.heap σ)(hx:aD x σ=some (.own2 t)):∃a,aES C K X B env s σ x t a:=by
 obtain ⟨v,o⟩:=e.own1 hx
 have hr:tG C X s.heap t v:=o.r
 cases hr with | @mk a its n xa g r nd na=>
 refine ⟨a,o.n,⟨xa,g,r,nd,na⟩,fun {h' its0 its' n0 k b xs'} g0 hk u r'=>?_⟩
 cases g.symm.trans g0
 obtain ⟨⟨n',g'⟩,kp⟩:=u
 have m:=List.mem_of_getElem? hk
 have ab:a≠b:=fun e=>na (e▸m)
 have w0:aT s.heap (.own2 t) (.ref a) b:=.row g m
 have hb:=o.w b w0
 have ga:=kp _ _ g ab
 refine ⟨⟨fun zz=>id,fun zz zz zz=>id,kp.mono fun c e=>e▸hb,rfl,rfl⟩,o.put _ (.own2 _) (kp.mono fun c e=>e▸w0) (fun c w=>?_) (.mk xa ga (r.set kp hb.1 g' (Reps.keep (.of (kp.mono fun c e=>e▸hb.1)) _ r') nd hk) nd na) (fun c w=>?_),.next⟩
 ·by_cases e:c=b
  ·exact ⟨_,e▸g'⟩
  ·cases w with
   |me=>exact ⟨_,ga⟩
   |row g2 m2=>
    cases g.symm.trans g2
    exact (r.row m2).2.elim fun o g=>⟨o,kp _ _ g e⟩
 ·cases w with
  |me=>exact .me
  |row g2 m2=>
   cases ga.symm.trans g2
   exact .row g m2
theorem New.again (e:aK C K X B env s.heap σ)(hx:aD x σ=some sl)(n:bJ env s.heap (mkS x) v):New C X X B env s.heap σ x sl v:=by
 obtain ⟨V,q⟩:=e.slots
 cases n.uniq (q.at_ x sl hx)
 exact ⟨fun zz=>id,fun zz zz zz=>id,e.newB,e.bnd,q.ok x sl hx,fun a w=>⟨q.fra x sl hx a w,q.noB x sl hx a w⟩,fun V' q' y sl' ne hy a w w'=>q'.apart y x sl' sl ne hy hx a w ((bJ.uniq (q'.at_ x sl hx) n).symm▸w')⟩
theorem aET (x:Nm)(sl:Slot)(σ:Sg):aD x (aU x sl σ)=some sl:=by rw [lW,if_pos rfl]
theorem aEU {sl':Slot}:∀y s,aD y (aU x sl' σ)=some s→aD y (aU x sl' (aU x sl σ))=some s:=fun y s h=>by
 rw [lW] at h ⊢
 by_cases hy:y=x
 ·rw [if_pos hy] at h ⊢; exact h
 ·rw [if_neg hy] at h ⊢
  rw [lW,if_neg hy]; exact h
end
theorem aEV {a b:Bool}{G:Prop}(h:(a || b)=false)(k:a=false→b=false→G):G:=k (Bool.or_eq_false_iff.mp h).1 (Bool.or_eq_false_iff.mp h).2
theorem TA {prog:Program}{w:World}{A:Around}{C:Cx}{s:Shared}{X:Addr→Prop}{op:Operator}{a b d:PV}{x y:Value}(h:vY op a b=some d)(qa:Rep C X s.heap a x)(qb:Rep C X s.heap b y):
  Tr (model prog w) A (inplaceOp op x y) s (ER C X s (.v d)):=aB h fun i hi h=>aB h fun j hj h=>aO h fun r hr=>by
 cases cL (d:=.v a) hi qa
 cases cL (d:=.v b) hj qb
 have done:∀r,ER C X s (.v (.int r)) (.int r s.toks) {s with toks:=s.toks+1}:=fun r=>⟨Ext.tok _ _ _,.mk _⟩
 cases op with
 |Add=>exact aQ hr fun Q E q=>PySem.P.iadd_int (q _ _ (done _))
 |Sub=>exact aQ hr fun Q E q=>PyProof.Rows.isub_int (q _ _ (done _))
 |BitAnd=>exact aQ hr fun Q E q=>PyProof.Rows.iand_int (q _ _ (done _))
 |BitOr=>exact aQ hr fun Q E q=>PyProof.Rows.ior_int (q _ _ (done _))
 |BitXor=>exact aQ hr fun Q E q=>PyProof.Rows.ixor_int (q _ _ (done _))
 |LShift=>exact oif hr fun c hr=>aP c fun c c3=>aP c fun c1 c2=>aQ hr fun Q E q=>PyProof.Rows.ilshift_int_small (dec c1) (dec c2) (dec c3) (q _ _ (done _))
 |RShift=>exact oif hr fun c hr=>aQ hr fun Q E q=>PyProof.Rows.irshift_int (dec c) (q _ _ (done _))
 |_=>exact no hr
section
variable {T:Th}{G:Gl}{x:Nm}{xp p:Pos}{e:V.E}
theorem aEW {op:Operator}(hv:aF T G e):cW T G (.augN x xp op e p):=fun σ fl σ' h=>jW (G:=fun fl=>jH T G (.augN x xp op e p) σ fl σ') h fun h=>dI h fun hc h=>aEV hc fun h1 h2=>aB h fun sl hx h=>aB h fun b hb h A X B env s c Q E k=>by
 have hst:dX G.sc x=true:=by
  cases q:dX G.sc x with
  |true=>rfl
  |false=>rw [q] at h1; cases h1
 refine wpAny_AugAssign_Name ?_
 cases sl with
 |fz a=>
  obtain ⟨v,n,r⟩:=c.e.slot hx
  exact iE c.e.fn n (aO (G:=fun σ'=>(∀f s',bV T.C G.sc env X B s .next σ' f s'→Q f s')→_) h (fun d hd k=>hv σ _ (bR hb) A X env s c.c _ E fun v s₁ q=>TA hd (Rep.keep (.nox q.x.keep) a r) q.r _ E fun u s₂ q2=>by
   have x2:=q.x.trans q2.x
   have e2:=c.e.keep x2.keep
   exact fL e2 hst (.fz e2 q2.r) _ E fun zz s₃ q3=>k _ _ ((q3.out e2).pre (.nox x2))) k)
 |own xs=>
  refine oif h fun ho h=>aB h fun ys hy h=>aO (G:=fun σ'=>(∀f s',bV T.C G.sc env X B s .next σ' f s'→Q f s')→_) h (fun l hl k=>?_) k
  cases dec ho
  obtain ⟨a,o⟩:=qV c.e hx
  refine iE c.e.fn o.n (hv σ _ (bR hb) A X env s c.c _ E fun v s₁ q=>?_)
  have e1:=c.e.keep q.x.keep
  obtain ⟨a',o1⟩:=qV e1 hx
  cases (o.n.keep q.x.keep).uniq o1.n
  cases dJ (d:=.v b) hy q.r with |mk _ gb rb=>
  cases o1.q with |mk xa g r=>
  cases (qK hl).1
  refine aEP g gb (r.length▸rb.length▸(qK hl).2) fun h' u=>?_
  have so:=o1.put u (Reps.append rb r)
  cases so with |mk t2 e2 _=>
  exact fL e2 hst (.again e2 (aET _ _ _) (o1.n' u)) _ E fun zz s₃ q3=>k _ _ ((((q3.out e2).pre t2).pre (.nox q.x)).sub aEU)
 |_=>exact no h
end
theorem DD {x:Nm}{σ:Sg}{xs:List PV}(h:BO x σ=some xs):aD x σ=some (.own xs):=aB h fun sl hx h=>by
 cases sl with
 |own ys=>exact Option.some.inj h▸hx
 |_=>exact no h
theorem TB {G:Gl}{e:E}{σ:Sg}{d:PV}(h:bB (ev G e σ)=some d)(o i:Expr)(p:Pos)(l:Nat)(env:Env):swapsWith e.b (some (.Subscript o i p)) l env=pure false:=by
 cases e <;> first |rfl |exact no h
theorem aEX {prog:Program}{w:World}{A:Around}{E:Value→Shared→Prop}{s:Shared}{a:Addr}{its:List Value}{n:Nat}{i:Int}{t:Tok}{v:Value}{Q:Value→Shared→Prop}(hg:s.heap.get? a=some (aS its n))(q:AtI its i v)(h:Q v s):wpAny (model prog w) A (getItem (.ref a) (.int i t)) Q E s:=
 let ⟨_,_,_,_,z⟩:=qM (prog:=prog) (w:=w) (A:=A) (E:=E) (t:=t) hg q h
 z
section
variable {T:Th}{G:Gl}{x:Nm}{xp sp ap cp p:Pos}{e i:V.E}{A:Around}{X B:Addr→Prop}{env:Env}{s:Shared}{σ σ':Sg}
theorem aEY {C:Cx}{K:Ks}{M:Program}{w:World}{iv d:PV}{ov u v:Value}(h:QF x iv d σ=some σ')(c:aK C K X B env s.heap σ)(n:bJ env s.heap (mkS x) ov)(qi:Rep C X s.heap iv u)(qd:Rep C X s.heap d v):
  Tr (model M w) A (setItem ov u v) s (fun zz s'=>bV C K env X B s .next σ' .next s'):=aB h fun xs hx h=>aB h fun j hj h Q E k=>by
 obtain ⟨a,o⟩:=qV c (DD hx)
 cases n.uniq o.n
 cases cL (d:=.v iv) hj qi
 cases hl:iB xs j d with
 |none=>rw [hl] at h; cases h
 |some l=>
  rw [hl] at h
  cases h
  cases DB hl with |mk q hj'=>
  cases o.q with |mk xa g r=>
  obtain ⟨w,q',_⟩:=q.rep r
  exact SY g q' (r.length▸hj') fun h' u=>k _ _ (o.put u (Reps.set qd r _))
theorem aEZ (hv:aF T G e)(hi:aF T G i):cW T G (.item x xp i sp e p):=fun σ fl σ' h=>jW (G:=fun fl=>jH T G (.item x xp i sp e p) σ fl σ') h fun h=>dI h fun hd h=>aB h fun d he h=>aB h fun iv hiv h A X B env s c Q E k=>by
 have hx:∃xs,aD x σ=some (.own xs):=aB h fun xs hx zz=>⟨xs,DD hx⟩
 obtain ⟨xs,hx⟩:=hx
 refine wpAny_Assign_Subscript (hv σ _ (bR he) A X env s c.c _ E fun v s₁ q=>?_) (TB he _ _ _ _ _)
 have c1:=c.ext q.x
 obtain ⟨a,o⟩:=qV c1.e hx
 refine wpAny_Name (iE c1.e.fn o.n ?_) (jC hd)
 refine hi σ _ (bR hiv) A X env s₁ c1.c _ E fun u s₂ q2=>?_
 exact aEY h (c1.ext q2.x).e (o.n.keep q2.x.keep) q2.r (Rep.keep (.nox q2.x.keep) d q.r) _ E fun zz s₃ q3=>k _ _ (q3.pre (.nox (q.x.trans q2.x)))
theorem aFa {i:V.E}{d:PV}(h:bB (ev G i σ)=some d)(ov iv new:Value):augStore i.b ov iv new=(do holding [new,ov,iv] (setItem ov iv new); release [new,ov,iv] []; pure .next):=by
 cases i <;> first |rfl |exact no h
theorem AtI.uniq {α:Type}{xs:List α}{i:Int}{x y:α}(a:AtI xs i x)(b:AtI xs i y):x=y:=by
 obtain ⟨j,h1,h2,_⟩:=a.ix
 obtain ⟨k,h3,h4,_⟩:=b.ix
 cases h1.symm.trans h3
 exact Option.some.inj (h2.symm.trans h4)
theorem TC {C:Cx}{K:Ks}{M:Program}{w:World}{iv jv d:PV}{u v:Value}{i:Int}{a b:Addr}{its:List Value}{n:Nat}(h:BP x iv jv d σ=some σ')(c:aK C K X B env s.heap σ)(nm:bJ env s.heap (mkS x) (.ref a))(g:s.heap.get? a=some (aS its n))(hi:asI iv=some i)(qb:AtI its i (.ref b))(qj:Rep C X s.heap jv u)(qd:Rep C X s.heap d v):
  Tr (model M w) A (setItem (.ref b) u v) s (fun zz s'=>bV C K env X B s .next σ' .next s'):=aB h fun t ht h=>aB h fun i' hi' h=>aB h fun j hj h=>aB h fun dd hd h=>aB h fun r hr h=>aB h fun r' hr' hz Q E k=>by
 cases hi.symm.trans hi'
 obtain ⟨a',o⟩:=DC c (wP ht)
 cases nm.uniq o.n
 cases cL (d:=.v jv) hj qj
 cases tI hd
 cases hl:iB t i r' with
 |none=>rw [hl] at hz; cases hz
 |some l=>
  rw [hl] at hz
  cases hz
  cases DB hl with |mk q2 hk=>
  cases DB hr' with |mk q hj'=>
  cases o.q with |mk xa g' r0 nd na=>
  cases g.symm.trans g'
  obtain ⟨z,h1,h2⟩:=(jR hr).row r0
  cases h1.uniq qb
  cases h2 with |mk xb gb rb=>
  obtain ⟨z,h3,_⟩:=(q.map PV.int).rep rb
  have e1:=rb.length
  rw [List.length_map] at e1
  obtain ⟨k',h5,h6,_⟩:=qb.ix
  rw [r0.len] at hk
  cases hk.symm.trans h5
  exact SY gb h3 (e1▸hj') fun h' u=>k _ _ (o.put g h6 u (by rw [List.map_set]; exact Reps.set qd rb _))
theorem aFb {ip:Pos}{j:V.E}(hv:aF T G e)(hi:aF T G i)(hj:aF T G j):cW T G (.item2 x xp i ip j sp e p):=fun σ fl σ' h=>jW (G:=fun fl=>jH T G (.item2 x xp i ip j sp e p) σ fl σ') h fun h=>dI h fun hd h=>aB h fun d he h=>aB h fun iv hiv h=>aB h fun jv hjv h=>aB h fun t ht h0=>aB h0 fun di hdi h0=>aB h0 fun dj hdj h0=>aB h0 fun dd hdd h0=>aB h0 fun r hr zz=>fun A X B env s c Q E k=>by
 have hx:=wP ht
 refine wpAny_Assign_Subscript (hv σ _ (bR he) A X env s c.c _ E fun v s₁ q=>?_) (TB he _ _ _ _ _)
 have c1:=c.ext q.x
 obtain ⟨a,o⟩:=DC c1.e hx
 refine lX (wpAny_Name (iE c1.e.fn o.n ?_) (jC hd))
 refine hi σ _ (bR hiv) A X env s₁ c1.c _ E fun u s₂ q2=>?_
 cases o.q with |mk xa g r0 nd na=>
 obtain ⟨z,h1,h2⟩:=(jR hr).row r0
 cases h2 with |mk xb gb rb=>
 cases tI hdi
 cases cL (d:=.v (.int di)) rfl q2.r
 refine qM (q2.x.keep _ _ g id) h1 ?_
 refine hj σ _ (bR hjv) A X env s₂ (c1.ext q2.x).c _ E fun u s₃ q3=>?_
 have x3:=q2.x.trans q3.x
 exact TC h (c1.ext x3).e (o.n.keep x3.keep) (x3.keep _ _ g id) rfl h1 q3.r (Rep.keep (.nox x3.keep) d q.r) _ E fun zz s₄ q4=>k _ _ (q4.pre (.nox (q.x.trans x3)))
theorem aFc {op:Operator}{ip:Pos}{j:V.E}(hv:aF T G e)(hi:aF T G i)(hj:aF T G j):cW T G (.augI2 x xp i ip j sp op e p):=fun σ fl σ' h=>jW (G:=fun fl=>jH T G (.augI2 x xp i ip j sp op e p) σ fl σ') h fun h=>dI h fun hd h=>aB h fun iv hiv h=>aB h fun jv hjv h=>aB h fun b hb h=>aB h fun old ho h=>aB h fun d hd2 h=>aB ho fun t ht ho=>aB ho fun di hdi ho=>aB ho fun dj hdj ho=>aO (G:=fun old=>vY op old b=some d→_) ho (fun o0 ho hd2=>aB ho fun r hr hrj=>fun A X B env s c Q E k=>by
 have hx:=wP ht
 obtain ⟨a,o⟩:=DC c.e hx
 refine wpAny_AugAssign_SubscriptAny (lX (wpAny_Name (iE c.e.fn o.n ?_) (jC hd))) (aFa hjv)
 refine hi σ _ (bR hiv) A X env s c.c _ E fun u s₁ q1=>?_
 cases o.q with |mk xa g r0 nd na=>
 obtain ⟨z,h1,h2⟩:=(jR hr).row r0
 cases h2 with |mk xb gb rb=>
 cases tI hdi
 cases cL (d:=.v (.int di)) rfl q1.r
 refine qM (q1.x.keep _ _ g id) h1 ?_
 refine hj σ _ (bR hjv) A X env s₁ (c.ext q1.x).c _ E fun u s₂ q2=>?_
 have x2:=q1.x.trans q2.x
 cases tI hdj
 cases cL (d:=.v (.int dj)) rfl q2.r with |mk t2=>
 obtain ⟨w,qw,rw⟩:=((jR hrj).map PV.int).rep rb
 refine aEX (x2.keep _ _ gb id) qw ?_
 refine hv σ _ (bR hb) A X env s₂ (c.ext x2).c _ E fun bv s₃ q3=>TA hd2 (Rep.keep (.nox (x2.trans q3.x).keep) _ rw) q3.r _ E fun r s₄ q4=>?_
 have x4:=(x2.trans q3.x).trans q4.x
 exact TC h (c.ext x4).e (o.n.keep x4.keep) (x4.keep _ _ g id) rfl h1 (show dY dj _ from .mk t2) q4.r _ E fun zz s₅ q5=>k _ _ (q5.pre (.nox x4))) hd2
theorem aFd (he:aF T G e):cW T G (.app x xp ap e cp p):=fun σ fl σ' h=>jW (G:=fun fl=>jH T G (.app x xp ap e cp p) σ fl σ') h fun h=>dI h fun hd h=>oif h fun h1 h=>aB h fun xs hx h=>aB h fun d hv h=>oif h fun hz h=>fun A X B env s c Q E k=>by
 have hx:=DD hx
 cases h
 obtain ⟨a,o⟩:=qV c.e hx
 cases hq:o.q with | @mk _ its n xa g r=>
 have hall:eA (evs G [e] σ)=some [.v d]:=by
  show (ev G e σ).bind _=_
  rw [bR hv]
  rfl
 have hs:aZ (aF T G) [e]:=.cons he .nil
 refine wpAny_Expr (CL (o:=.name x xp) (es:=[e]) (mB hall) (by show ((ap.endLine==cp.line) && _ && _)=true; rw [h1]; rfl) (wpAny_Name (iE c.e.fn o.n fun pl=>?_) (jC hd))) (by unfold interactive; rw [c.e.fn]; rfl)
 refine getMethod_builtin ⟨_,g,rfl⟩ F.plainAttrs_list F.slot_list_append F.type_list_append (fun a' ha'=>by cases ha'; exact ⟨_,g,rfl⟩) (mC hs hall c.c (fun zz zz=>qQ _) fun vs s' q=>?_)
 cases q.r with |mk qu q'=>
 cases q'
 have e1:=c.e.keep q.x.keep
 obtain ⟨a',o1⟩:=qV e1 hx
 cases (o.n.keep q.x.keep).uniq o1.n
 have rd:Reps T.C X s'.heap [d] [_]:=⟨qu,rfl⟩
 exact aEQ (q.x.keep _ _ g id) (r.length▸Nat.le_of_succ_le (jD hz)) fun h' u=>k _ _ ((o1.put u (Reps.append rd (Reps.keep (.nox q.x.keep) xs r))).pre (.nox q.x))
end
section
variable {C:Cx}{K:Ks}{env:Env}{X X' B B' F:Addr→Prop}{s s':Shared}{fl:Fl}{σ:Sg}{f:Flow}{h:Heap}
theorem aK.lessB (e:aK C K X B' env h σ)(hB:∀a,B a→B' a):aK C K X B env h σ:=e.move (aG.refl _ _) (fun zz zz zz=>id) (fun zz zz zz z zz=>z) (fun a b=>e.bX a (hB a b)) (fun a o zz=>hB a) e.newB e.bnd
theorem bV.less (q:bV C K env X B' s fl σ f s')(hB:∀a,B a→B' a):bV C K env X B s fl σ f s':=by
 cases q with |mk t e o=>
 refine ⟨t.less hB,e.lessB hB,?_⟩
 cases o with
 |next=>exact .next
 |brk=>exact .brk
 |ret r=>exact .ret (Rep.keep ⟨aG.refl _ _,fun a o g n b=>n (hB a b)⟩ _ r)
theorem Step.wr (x:Ext F s s')(hF:∀a,F a→X a∧¬ B a):Step X B X s s':=⟨fun zz=>id,fun zz zz zz=>id,x.mono hF⟩
theorem Step.grow (x:Ext NoX s s')(new:∀a,F a→s.heap.get? a=none):Step X B (Or2 X F) s s':=⟨fun zz=>.inl,fun a o g n z=>z.elim n fun f=>(by rw [new a f] at g; cases g),x.any⟩
end
section
variable {prog:Program}{w:World}
theorem aFe {A:Around}{R:Result→Shared→Prop}{s:Shared}{target:Expr}{it:Value}{body orelse:List Stmt}{env:Env}(I:Nat→Shared→Prop)
  (turn:∀n s,I n s→∀E,wpAny (model prog w) A (pyNext it) (fun r s₁=>match r with
   |none=>wpAny (model prog w) A (execs orelse env) (fun f s₃=>R (.ok f) s₃) E s₁
   |some v=>wpAny (model prog w) A (letOwnedTupleGo target it v) (fun zz s₁'=>wpAny (model prog w) A (assign target env v) (fun zz s₂=>wpAny (model prog w) A (execs body env) (fun f s₃=>match f with
     |.next |.cont=>∃m,m<n∧I m s₃
     |.brk=>R (.ok .next) s₃
     |.ret v=>R (.ok (.ret v)) s₃) E s₂) E s₁') E s₁) E s)
  (n:Nat) (h:I n s):codeAny (model prog w) A (.forLoop target it body orelse env) R s:=by
 refine codeAny_loop' rfl I (fun n s hI=>?_) n h
 show wpAny _ _ ((forTurn target it body orelse env).onRaise (fun x=>do noteFrame x env; theTreesLotGoes x)) _ _ s
 refine wpAny_noted ?_
 simp only [forTurn]
 refine wpAny_bind (wpAny_standAt (wpAny_bind (wpAny_onRaise (wpAny_mono (turn n s hI _) (fun r s₁ h₁=>?_) fun zz zz h'=>wpAny_standAt h'))))
 cases r with
 |none=>exact wpAny_pure (.inr ⟨rfl,codeAny_block h₁⟩)
 |some v=>
  refine wpAny_bind (wpAny_mono h₁ (fun zz s₁' h₁=>?_) fun zz zz h'=>h')
  refine wpAny_bind (wpAny_mono h₁ (fun zz s₂ h₂=>wpAny_bind (wpAny_mono h₂ (fun f s₃ h₃=>?_) fun zz zz h'=>h')) fun zz zz h'=>h')
  cases f with
  |next=>exact wpAny_pure (.inl ⟨rfl,h₃⟩)
  |cont=>exact wpAny_pure (.inl ⟨rfl,h₃⟩)
  |brk=>exact wpAny_pure h₃
  |ret v=>exact wpAny_pure h₃
end
inductive TD (T:Th)(G:Gl)(X B F:Addr→Prop)(env:Env)(s₀:Shared)(St:(Addr→Prop)→List PV→Heap→Prop)(r:Rs)(go:List PV→Sg→Rs)(n:Nat)(s:Shared):Prop
 |mk {X':Addr→Prop} {σ:Sg} {l:List PV} (hn:l.length=n) (t:Step X B X' s₀ s) (hF:∀a,F a→X' a) (e:aK T.C G.sc X' (Or2 B F) env s.heap σ) (st:St X' l s.heap) (h:go l σ=r):TD T G X B F env s₀ St r go n s
theorem aFf {T:Th}{G:Gl}{t:Tg}{it:It}{a b:List S}{p:Pos}(hG:∀A,T.P A→Bud A)(hi:tOk t it=true→nQ T G it t)(ha:iI T G a)(hb:iI T G b):cW T G (.for t it a b p):=fun σ fl σ' h=>oif h fun htok h=>aB h fun xs hxs h A X B env s c Q E k=>by
 refine wpAny_For (hi htok σ xs hxs A X env s c.c _ E fun xv s₁ q=>q _ _ fun itv s₂ m=>?_) (fun x=>CZ hxs env x)
 cases m with | @mk F St x2 IK new st2=>
 have nF:∀{a o},s.heap.get? a=some o→¬ F a:=fun g f=>by rw [new _ f] at g; cases g
 have nX:∀{a},X a→¬ F a:=fun x f=>(c.e.bnd _ x).elim fun o g=>nF g f
 have nB:∀{a},F a→¬ B a:=fun f b=>nX (c.e.bX _ b) f
 refine aFe (TD T G X B F env s St (some (fl,σ')) (forLoop G.sc t (exs G a) (exs G b))) (fun n s₁ hI E'=>?_) xs.length (.mk rfl (.grow x2 new) (fun zz=>.inr) (c.e.grow x2.keep new (IK.live _ _ _ st2)) st2 h)
 cases hI with | @mk X' σ1 l hn t1 hF e1 st1 h=>
 cases l with
 |nil=>
  refine IK.done X' s₁ st1 hF _ _ fun r s₃ q=>?_
  cases q.e
  have t3:Step X B (fun a=>X' a∧¬ F a) s s₃:=⟨fun a x=>⟨t1.g a x,nX x⟩,fun a o g n z=>t1.n a o g n z.1,fun a o g n=>q.x.keep a o (t1.x.keep a o g n) (nF g),q.x.os.trans t1.x.os,q.x.gens.trans t1.x.gens⟩
  have e3:aK T.C G.sc (fun a=>X' a∧¬ F a) B env s₃.heap σ1:=e1.move (q.x.keep.mono fun zz f=>.inr f) (fun a o g n z=>n z.1) (fun a o g x n=>⟨x,fun f=>n (.inr f)⟩) (fun a b=>⟨e1.bX a (.inl b),fun f=>nB f b⟩) (fun a o g b=>.inl b) (fun a z=>e1.newB a z.1) fun a z=>(e1.bnd a z.1).elim fun o g=>⟨o,q.x.keep a o g z.2⟩
  exact hb σ1 fl σ' h A _ B env s₃ ⟨c.pa,e3⟩ _ _ fun f s₄ q4=>k f s₄ (q4.pre t3)
 |cons d l=>
  rw [fJ] at h
  cases hbt:bK G.sc t d σ1 with
  |none=>rw [hbt] at h; cases h
  |some σ2=>
   rw [hbt] at h
   dsimp only at h
   refine IK.next X' d l s₁ st1 hF _ _ fun v s₃ q=>q _ _ fun zz s₄ q=>?_
   have e4:=e1.wr q.x.keep (fun zz f=>.inr f) (IK.live _ _ _ q.st)
   refine CN (hG A c.pa).handled hbt e4 q.i _ _ fun zz s₅ q5=>?_
   have st5:St X' l s₅.heap:=IK.keep _ _ _ _ _ q.st (.of (q5.x.keep.mono fun a f=>e4.fra f.fra)) fun a o fa g=>q5.x.keep a o g fun f=>e4.fB a f.fra (.inr fa)
   have t5:Step X B X' s s₅:=t1.trans (.trans (.wr q.x fun a f=>⟨hF a f,nB f⟩) (.wr q5.x fun a f=>⟨e4.fra f.fra,fun b=>e4.fB a f.fra (.inl b)⟩))
   cases hx:exs G a σ2 with
   |none=>rw [hx] at h; cases h
   |some r=>
    obtain ⟨fl2,σ3⟩:=r
    rw [hx] at h
    refine ha σ2 fl2 σ3 hx A X' (Or2 B F) env s₅ ⟨c.pa,q5.e⟩ _ _ fun f s₆ q6=>?_
    have q':=(q6.less (B:=B) fun zz b=>.inl b).pre t5
    cases q6 with |mk t6 e6 hf=>
    cases hf with
    |next=>exact ⟨l.length,hn▸Nat.lt_succ_self _,.mk rfl (t5.trans (t6.less fun zz b=>.inl b)) (fun a f=>t6.g a (hF a f)) e6 (IK.keep _ _ _ _ _ st5 ⟨t6.x.keep.mono fun zz y=>y.1,t6.n⟩ fun a o fa g=>t6.x.keep a o g fun y=>y.2 (.inr fa)) h⟩
    |brk=>cases h; cases q' with |mk t e _=>exact k _ _ ⟨t,e,.next⟩
    |ret r=>cases h; exact k _ _ q'
inductive tT (hot hot2:Bool)(d:PV):Slot→Prop
 |fz:tT hot hot2 d (.fz d)
 |own {xs:List PV} (h:hot=true) (e:d=.list xs):tT hot hot2 d (.own xs)
 |own2 {xs:List PV} {t:List (List Int)} (h:hot2=true) (e:d=.list xs) (ht:pV xs=some t):tT hot hot2 d (.own2 t)
theorem TE (hot hot2:Bool)(d:PV):tT hot hot2 d (qD hot hot2 d):=by
 cases d with
 |list xs=>
  show tT hot hot2 _ (bif hot2 then Option.casesOn (motive:=fun zz=>Slot) (pV xs) (.fz (.list xs)) .own2 else bif hot then .own xs else .fz (.list xs))
  cases hot2 with
  |true=>cases ht:pV xs with
   |none=>exact .fz
   |some t=>exact .own2 rfl rfl ht
  |false=>cases hot with
   |true=>exact .own rfl rfl
   |false=>exact .fz
 |_=>exact .fz
theorem Reps.int {C C':Cx}{X Y:Addr→Prop}{h h':Heap}:∀{ns:List Int} {vs:List Value},Reps C X h (ns.map .int) vs→Reps C' Y h' (ns.map .int) vs
 |[],_,r=>r
 |n::ns,_,r=>by cases r with |mk p q=>exact ⟨p,Reps.int q⟩
structure TF (C:Cx)(Y Z:Addr→Prop)(h:Heap)(t:List (List Int))(its:List Value):Prop where
 r:cP C Y h t its
 n:∀b,Value.ref b∈its→¬ Z b
theorem DE {C:Cx}{Y Z:Addr→Prop}{h:Heap}:∀{xs:List PV} {its:List Value} {t:List (List Int)},Reps C Z h xs its→pV xs=some t→(∀b,Value.ref b∈its→Y b)→TF C Y Z h t its
 |[],its,t,r,ht,hy=>by cases r; cases ht; exact ⟨rfl,nofun⟩
 |d::xs,its,t,r,ht,hy=>by
  cases r with | @mk v vs p q=>
  refine aB ht fun ns hns ht=>aO (G:=fun t=>TF C Y Z h t (v::vs)) ht fun t' ht'=>aB hns fun l hl hns=>?_
  cases d <;> first |exact no hl |cases hl
  cases p with | @mk a _ _ x g p=>
  cases (lZ (C:=C) (X:=Z) (h:=h) hns).1
  have ih:=DE q ht' fun b m=>hy b (.tail _ m)
  exact ⟨⟨.mk (hy _ (.head _)) g p.int,ih.r⟩,fun b m=>by
   cases m with
   |head=>exact x
   |tail _ m=>exact ih.n b m⟩
section
variable {M:Model}{A:Around}{s s':Shared}{C:Cx}{K:Ks}{X B N:Addr→Prop}{env:Env}{σ:Sg}{x:Nm}{v:Value}{sl:Slot}{h:Heap}
theorem New.fresh (e:aK C K X (Or2 B N) env h σ)(ok:bU C X h sl v)(own:∀a,aT h sl v a→N a∧¬ B a):New C X X B env h σ x sl v:=
 ⟨fun zz=>id,fun zz zz zz=>id,e.newB,e.bnd,ok,fun a w=>⟨fun f=>e.fB a f (.inr (own a w).1),(own a w).2⟩,fun V q y sl' ne hy a w w'=>e.slots.elim fun V0 q0=>q0.noB y sl' hy a ((q.at_ y sl' hy).uniq (q0.at_ y sl' hy)▸w) (.inr (own a w').1)⟩
theorem TG {hot hot2 b:Bool}{d:PV}(e:aK C K X B env s.heap σ)(hst:dX K x=true)(q:ER C X s (.v d) v s')(f:(hot=true∨hot2=true)→∀xs,d=.list xs→CA b C X s xs s' v)(hb:hot2=true→b=true):Tr M A (storeName env (mkS x) v) s' (fun zz s₂=>bV C K env X B s .next (aU x (qD hot hot2 d) σ) .next s₂):=by
 have ns:=TE hot hot2 d
 generalize qD hot hot2 d=sl at ns ⊢
 cases ns with
 |fz=>
  have e1:=e.keep q.x.keep
  exact fun Q E k=>fL e1 hst (.fz e1 q.r) _ E fun zz s₂ q2=>k _ _ ((q2.out e1).pre (.nox q.x))
 |own h he=>
  cases f (.inl h) _ he with | @mk a its n nw fi g r=>
  have nB:∀b,b=a→¬ B b:=fun b e' hb=>(e.bnd b (e.bX b hb)).elim fun o g=>by rw [e',nw] at g; cases g
  have e1:=e.grow (N:=fun b=>b=a) q.x.keep (fun b e=>e▸nw) fun b e=>⟨_,e▸g⟩
  have e2:=e1.lessB (B:=B) fun zz=>.inl
  exact fun Q E k=>fL e2 hst (.fresh (sl:=.own _) e1 (show LV _ _ _ _ _ from .mk (.inr rfl) g r) fun b w=>by cases w; exact ⟨rfl,nB _ rfl⟩) _ E fun zz s₂ q2=>k _ _ ((q2.out e2).pre (.grow q.x fun b (e:b=a)=>e▸nw))
 | @own2 xs t h he ht=>
  cases f (.inr h) _ he with | @mk a its n nw fi g r=>
  have fi:=fi (hb h)
  have nN:∀b,(b=a∨Value.ref b∈its)→s.heap.get? b=none:=fun b h=>h.elim (fun e=>e▸nw) (fi.nw b)
  have nB:∀b,(b=a∨Value.ref b∈its)→¬ B b:=fun b h hb=>(e.bnd b (e.bX b hb)).elim fun o g=>by rw [nN b h] at g; cases g
  have e1:=e.grow (N:=fun b=>b=a∨Value.ref b∈its) q.x.keep nN fun b h=>h.elim (fun e=>⟨_,e▸g⟩) fun m=>r.live b m
  have e2:=e1.lessB (B:=B) fun zz=>.inl
  have tr:=DE (Y:=Or2 X fun b=>b=a∨Value.ref b∈its) r ht fun b m=>.inr (.inr m)
  exact fun Q E k=>fL e2 hst (.fresh (sl:=.own2 t) e1 (.mk (.inr (.inl rfl)) g tr.r fi.nd fun m=>tr.n a m (.inr rfl)) fun b w=>by
   have hN:b=a∨Value.ref b∈its:=by
    cases w with
    |me=>exact .inl rfl
    |row g2 m=>cases g.symm.trans g2; exact .inr m
   exact ⟨hN,nB b hN⟩) _ E fun zz s₂ q2=>k _ _ ((q2.out e2).pre (.grow q.x nN))
theorem aFg {hot hot2 b:Bool}{l:List PV}{D L:Addr}{E:Value→Shared→Prop}{Q:Value→Shared→Prop}{xp:Pos}(e:aK C K X B env s.heap σ)(hst:dX K x=true)(c:tR (FrP b s) C X s l D L s')(hb:hot2=true→b=true)(k:∀s₂,bV C K env X B s .next (aU x (qD hot hot2 (.list l)) σ) .next s₂→Q .none s₂):
  compPost M A E (some (assign (.Name (mkS x) xp) env)) Q (.ref D) L (.ok .next) s':=by
 have nw:∀{a},(a=D∨a=L)→s.heap.get? a=none:=fun h=>h.elim (fun e=>e▸c.newD) fun e=>e▸c.newL
 have old:∀{a},X a→¬ (a=D∨a=L):=fun x h=>(e.bnd _ x).elim fun o g=>by rw [nw h] at g; cases g
 cases hacc:c.acc with | @mk _ its n _ g rp=>
 have r:=rp.1
 obtain ⟨m,hm⟩:=c.ns
 have gL:∃o,s'.heap.get? L=some o:=hm.elim fun o q=>q.elim fun zz q=>q.elim fun zz q=>⟨o,q.1⟩
 have rep:∀Y:Addr→Prop,(∀a,Y a→Or2 (Or2 X fun a=>a=D) (fun a=>a=L) a)→Reps C Y s'.heap l its:=fun Y hy=>Reps.keep ⟨aG.refl _ _,fun a o g n y=>n (hy a y)⟩ l r
 have fin:∀(N:Addr→Prop) (sl:Slot),(∀a,N a→s.heap.get? a=none)→N L→aK C K (Or2 X N) (Or2 B N) env s'.heap σ→New C (Or2 X N) (Or2 X N) (Or2 B fun a=>a=L) env s'.heap σ x sl (.ref D)→(∀s₂,bV C K env X B s .next (aU x sl σ) .next s₂→Q .none s₂) →
   wpAny M A (assign (.Name (mkS x) xp) env (.ref D)) (fun zz s₂=>∃m,s₂.heap.Ns L m∧∀h',Heap.SameBut L s₂.heap h'→Q .none {s₂ with heap:=h'}) E s':=fun N sl hN nl e1 nv k=>by
  have e2:=e1.lessB (B:=Or2 B fun a=>a=L) fun a b=>b.elim .inl fun (e:a=L)=>.inr (e▸nl)
  refine wpAny_assign_Name (fL e2 hst nv _ E fun zz s₂ q=>⟨m,Ns.keepX hm q.x.keep fun f=>e2.fB L f.fra (.inr rfl),fun h' hs=>k _ (.mk (X':=fun a=>Or2 X N a∧a≠L) ?_ ?_ .next)⟩)
  ·exact ⟨fun a x=>⟨.inl x,fun e=>old x (.inr e)⟩,fun a o g n z=>z.1.elim n fun z=>(by rw [hN a z] at g; cases g),fun a o g n=>(hs.2 a fun e=>by rw [e,c.newL] at g; cases g).trans (q.x.keep a o (c.ext.keep a o g id) fun f=>n (e.fraW a f)),q.x.os.trans c.ext.os,q.x.gens.trans c.ext.gens⟩
  ·exact q.e.move (fun a o g n=>(hs.2 a fun e=>n (.inr e)).trans g) (fun a o g n z=>n z.1) (fun a o g x n=>⟨x,fun e=>n (.inr e)⟩) (fun a b=>⟨q.e.bX a (.inl b),fun e'=>old (e.bX a b) (.inr e')⟩) (fun a o g b=>.inl b) (fun a z=>q.e.newB a z.1) fun a z=>(q.e.bnd a z.1).elim fun o g=>⟨o,(hs.2 a z.2).trans g⟩
 have ns:=TE hot hot2 (.list l)
 generalize qD hot hot2 (.list l)=sl at ns k ⊢
 cases ns with
 |fz=>
  have e1:=e.grow (N:=fun a=>a=L) c.ext.keep (fun a h=>nw (.inr h)) fun a h=>h▸gL
  exact fin _ _ (fun a h=>nw (.inr h)) rfl e1 (.fz (d:=.list l) (e1.lessB fun a b=>b) (show LV _ _ _ _ _ from .mk (fun h=>h.elim (fun x=>old x (.inl rfl)) c.ne) g (rep _ fun a h=>h.imp .inl id))) k
 |own h he=>
  cases he
  have e1:=e.grow (N:=fun a=>a=D∨a=L) c.ext.keep (fun a=>nw) fun a h=>h.elim (fun h=>⟨_,h▸g⟩) fun h=>h▸gL
  refine fin (fun a=>a=D∨a=L) (.own l) (fun a=>nw) (.inr rfl) e1 ⟨fun zz=>id,fun zz zz zz=>id,e1.newB,e1.bnd,(show LV _ _ _ _ _ from .mk (.inr (.inl rfl)) g (rep _ fun a h=>h.elim (fun x=>.inl (.inl x)) fun h=>h.imp .inr id)),fun a w=>?_,fun V q y sl' ne hy a w w'=>?_⟩ k
  ·cases w
   exact ⟨fun f=>e1.fB _ f (.inr (.inl rfl)),fun b=>b.elim (fun b=>old (e.bX _ b) (.inl rfl)) c.ne⟩
  ·cases w'
   exact e1.slots.elim fun V0 q0=>q0.noB y sl' hy _ ((q.at_ y sl' hy).uniq (q0.at_ y sl' hy)▸w) (.inr (.inl rfl))
 | @own2 xs t h he ht=>
  cases he
  have fi:=rp.2 (hb h)
  have nN:∀a,((a=D∨a=L)∨Value.ref a∈its)→s.heap.get? a=none:=fun a h=>h.elim nw (fi.nw a)
  have e1:=e.grow (N:=fun a=>(a=D∨a=L)∨Value.ref a∈its) c.ext.keep nN fun a h=>h.elim (fun h=>h.elim (fun h=>⟨_,h▸g⟩) fun h=>h▸gL) fun m=>r.live a m
  have tr:=DE (Y:=Or2 X fun a=>(a=D∨a=L)∨Value.ref a∈its) r ht fun b m=>.inr (.inr m)
  have hN:∀a,aT s'.heap (.own2 t) (.ref D) a→a=D∨Value.ref a∈its:=fun a w=>by
   cases w with
   |me=>exact .inl rfl
   |row g2 m=>cases g.symm.trans g2; exact .inr m
  have inN:∀{a},(a=D∨Value.ref a∈its)→((a=D∨a=L)∨Value.ref a∈its):=fun h=>h.imp .inl id
  refine fin (fun a=>(a=D∨a=L)∨Value.ref a∈its) (.own2 t) nN (.inl (.inr rfl)) e1 ⟨fun zz=>id,fun zz zz zz=>id,e1.newB,e1.bnd,.mk (.inr (.inl (.inl rfl))) g tr.r fi.nd fun m=>tr.n D m (.inl (.inr rfl)),fun a w=>?_,fun V q y sl' ne hy a w w'=>?_⟩ k
  ·have h:=hN a w
   exact ⟨fun f=>e1.fB a f (.inr (inN h)),fun b=>b.elim (fun b=>(e.bnd a (e.bX a b)).elim fun o g=>by rw [nN a (inN h)] at g; cases g) fun el=>h.elim (fun ed=>c.ne (ed.symm.trans el)) fun m=>tr.n a m (.inr el)⟩
  ·exact e1.slots.elim fun V0 q0=>q0.noB y sl' hy a ((q.at_ y sl' hy).uniq (q0.at_ y sl' hy)▸w) (.inr (inN (hN a w')))
end
inductive TH:E→Prop
 |mk {elt:E} {g:Gn} {gs:List Gn} {sc:Scope} {p:Pos}:TH (.comp elt g gs sc p)
theorem aFh (e:E):TH e∨nH e=false:=by
 cases e <;> first |exact .inl .mk |exact .inr rfl
theorem aFi {e:E}(h:fU e=false):¬ fr2 e=true:=fun h2=>by
 cases e <;> first |cases h2 |cases h
section
variable {T:Th}{G:Gl}{x:Nm}{xp p:Pos}{e:V.E}{σ:Sg}{env:Env}
theorem TJ {d:EV}(h:nH e=false)(hd:ev G e σ=some d)(t:Option Expr)(l:Nat):swapsWith e.b t l env=pure false:=by
 cases e <;> first |rfl |exact no hd |cases h
theorem aFj (hG:∀A,T.P A→Bud A)(he:aF T G e)(hf:fU e=true→iF T G e)(hc:∀elt g gs sc p',e=.comp elt g gs sc p'→nU T G elt g gs sc):cW T G (.set x xp e p):=fun σ fl σ' h=>jW (G:=fun fl=>jH T G (.set x xp e p) σ fl σ') h fun h=>aB h fun d hd h=>oif h fun hst h A X B env s c Q E k=>by
 cases d with
 |h xs=>exact no h
 |v d=>
  cases h
  have road:swapsWith e.b (some (.Name (mkS x) xp)) p.line env=pure false→wpAny (model T.prog T.w) A (exec (.Assign [.Name (mkS x) xp] e.b p) env) Q E s:=fun sw=>by
   cases hfr:fU e with
   |true=>rw [hfr] at k; exact wpAny_Assign_Name (hf hfr σ _ hd A X env s c.c _ E fun v s₁ q=>TG c.e hst q.e (fun zz ys h=>q.f ys (congrArg EV.v h)) (fun h=>(Bool.and_eq_true_iff.mp h).1) _ E fun zz s₂ q2=>k _ _ q2) sw
   |false=>rw [hfr] at k; exact wpAny_Assign_Name (he σ _ hd A X env s c.c _ E fun v s₁ q=>TG (b:=true) c.e hst q (fun h=>h.elim (fun h=>by cases h) fun h=>absurd ((Bool.and_eq_true_iff.mp h).1) (aFi hfr)) (fun zz=>rfl) _ E fun zz s₂ q2=>k _ _ q2) sw
  refine (aFh e).elim (fun ic=>?_) fun h=>road (TJ h hd _ _)
  cases ic with | @mk elt g gs sc p'=>
  have hp:=hc elt g gs sc p' rfl
  have hsw:∃b,swapsWith (V.E.comp elt g gs sc p').b (some (.Name (mkS x) xp)) p.line env=pure b:=⟨_,rfl⟩
  obtain ⟨b,hsw⟩:=hsw
  cases b with
  |false=>exact road hsw
  |true=>
   show wpAny _ _ (exec (.Assign [.Name (mkS x) xp] (V.E.comp elt g gs sc p').b p) env) Q E s
   rw [exec_Assign_Name_used _ _ _ _ hsw]
   refine wpAny_bind (wpAny_standAt (wpAny_bind ?_))
   refine DA (P:=fun d'=>d'=.v d→_) hd (fun xs l v e=>?_) rfl
   cases e
   cases g
   show wpAny _ A (do let _ ←comprehension (.ListComp elt.b (_::gbs gs) sc p') sc env (firstIterPos (_::gbs gs) p') (newList []) false (eval _ env) (some (assign (.Name (mkS x) xp) env))) _ _ s
   exact wpAny_bind (SW hp (hp.ps p' s) FrP.nil (hG A c.pa).handled v.hn v.hs v.hxs v.hl v.hz c.c fun D L s' cd=>aFg (hot:=fU _ && gH x G.hot) (hot2:=fr2 _ && gH (0::x) G.hot) c.e hst cd (fun h=>(Bool.and_eq_true_iff.mp h).1) fun s₂ q=>wpAny_pure (wpAny_pure (k _ _ q)))
theorem TK {M:Model}{A:Around}{C:Cx}{K:Ks}{X B:Addr→Prop}{d:PV}{v:Value}:∀(ts:List NP) {σ σ':Sg} {s:Shared},BN K d ts σ=some σ'→aK C K X B env s.heap σ→Rep C X s.heap d v →
  Tr M A (assignAll v ((assignEach (ts.map NP.b) env).map (·.2))) s (fun zz s'=>StR C K X B env s σ' s')
 |[],σ,σ',s,h,e,r=>fun Q E k=>by cases h; exact wpAny_pure (k _ _ ⟨Ext.refl _ _,e⟩)
 |[t],σ,σ',s,h,e,r=>oif h fun c h Q E k=>by
  cases h
  show wpAny _ _ (assign (.Name (mkS t.1) t.2) env v) _ _ s
  exact wpAny_assign_Name (fL e c (.fz e r) _ E k)
 |t::u::ts,σ,σ',s,h,e,r=>oif h fun c h Q E k=>by
  show wpAny _ _ (do holding [v] (assign (.Name (mkS t.1) t.2) env v); assignAll v ((assignEach ((u::ts).map NP.b) env).map (·.2))) _ _ s
  exact wpAny_bind (wpAny_holding (wpAny_assign_Name (fL e c (.fz e r) _ E fun zz s₁ q=>TK (u::ts) h q.e (Rep.keep (.of (q.x.keep.mono fun a f=>e.fra f.fra)) d r) _ E fun zz s₂ q2=>k _ _ (q.trans q2))))
theorem aFk {x y:NP}{xs:List NP}(he:aF T G e):cW T G (.many x y xs e p):=fun σ fl σ' h=>jW (G:=fun fl=>jH T G (.many x y xs e p) σ fl σ') h fun h=>aB h fun d hd h A X B env s c Q E k=>
 wpAny_Assign_stores (targets:=(x::y::xs).map NP.b) (he σ _ (bR hd) A X env s c.c _ E fun v s₁ q=>have e1:=c.e.keep q.x.keep
  TK (x::y::xs) h e1 q.r _ E fun zz s₂ q2=>k _ _ ((q2.out e1).pre (.nox q.x))) rfl rfl
end
theorem aFl {a b:PySem.Str}{ap bp:Pos}{k k':Nat}{p p':Pos}{o x:Expr}{m:PySem.Str}{op:Pos}{env:Env}(hne:a≠b):
  swappedStores [.Tuple [.Name a ap,.Name b bp] k p] (.Tuple [.Attribute o m op,x] k' p') env=pure none∨swappedStores [.Tuple [.Name a ap,.Name b bp] k p] (.Tuple [.Attribute o m op,x] k' p') env=pure (some [a,b]):=by
 have hab:(b==a)=false:=beq_eq_false_iff_ne.mpr (Ne.symm hne)
 have he:[a,b].eraseDups=[a,b]:=by simp [List.eraseDups_cons,hab]
 unfold swappedStores
 dsimp only
 cases hb:(env.blockKind != ScopeKind.function) with
 |true=>exact .inl (by simp)
 |false=>
  cases hx:([Expr.Attribute o m op,x].any fun |.Starred ..=>true |_=>false) with
  |true=>exact .inl (by simp)
  |false=>
   simp only [List.length_cons,List.length_nil,Nat.zero_add,Nat.reduceAdd,bne_self_eq_false,beq_self_eq_true,Bool.true_or,Bool.not_true,Bool.or_self,Bool.or_false,Bool.false_eq_true,if_false]
   have h1:(List.all [Expr.Attribute o m op,x] (foldedForSure 8))=false:=rfl
   have h2:(List.all [Expr.Attribute o m op,x] (constantsAlone 8))=false:=rfl
   simp only [h1,h2,Bool.false_eq_true,if_false]
   generalize hL:List.filterMap _ _=L
   have cs:L=[a,b]∨(L.length != 2)=true:=by
    subst hL
    cases h3:(env.kindOf a==some NameKind.local && ap.line==(Option.map (fun x:Expr=>x.pos.line) [Expr.Name a ap,Expr.Name b bp].head?).getD 0) with
    |true=>cases h4:(env.kindOf b==some NameKind.local && bp.line==(Option.map (fun x:Expr=>x.pos.line) [Expr.Name a ap,Expr.Name b bp].head?).getD 0) with
     |true=>exact .inl (by rw [List.filterMap_cons_some (b:=a) (by dsimp only; rw [if_pos h3]),List.filterMap_cons_some (b:=b) (by dsimp only; rw [if_pos h4])]; rfl)
     |false=>exact .inr (by rw [List.filterMap_cons_some (b:=a) (by dsimp only; rw [if_pos h3]),List.filterMap_cons_none (by dsimp only; rw [if_neg (by rw [h4]; decide)])]; rfl)
    |false=>cases h4:(env.kindOf b==some NameKind.local && bp.line==(Option.map (fun x:Expr=>x.pos.line) [Expr.Name a ap,Expr.Name b bp].head?).getD 0) with
     |true=>exact .inr (by rw [List.filterMap_cons_none (by dsimp only; rw [if_neg (by rw [h3]; decide)]),List.filterMap_cons_some (b:=b) (by dsimp only; rw [if_pos h4])]; rfl)
     |false=>exact .inr (by rw [List.filterMap_cons_none (by dsimp only; rw [if_neg (by rw [h3]; decide)]),List.filterMap_cons_none (by dsimp only; rw [if_neg (by rw [h4]; decide)])]; rfl)
   refine cs.elim (fun e=>.inr ?_) fun e=>.inl (by rw [e]; rfl)
   subst e
   simp only [he]
   rfl
theorem DF {α:Type}{l:List α}{q:α × α}(h:two l=some q):l=[q.1,q.2]:=by
 cases l with
 |nil=>exact no h
 |cons a r=>cases r with
  |nil=>exact no h
  |cons b r=>cases r with
   |nil=>exact Option.some.inj h▸rfl
   |cons c r=>exact no h
theorem aFm {σ:Sg}{x y:Nm}{s1 s2:Slot}(ne:x≠y):∀z sl,aD z (aU y s2 (aU x s1 σ))=some sl→aD z (aU x s1 (aU y s2 σ))=some sl:=fun z sl h=>by
 rw [lW,lW] at h ⊢
 by_cases h1:z=x
 ·rw [if_neg fun e=>ne (h1.symm.trans e),if_pos h1] at h
  rw [if_pos h1]; exact h
 ·by_cases h2:z=y
  ·rw [if_pos h2] at h
   rw [if_neg h1,if_pos h2]; exact h
  ·rw [if_neg h2,if_neg h1] at h
   rw [if_neg h1,if_neg h2]; exact h
inductive IsTup:E→Prop
 |mk {es:List E} {n:Nat} {p:Pos}:IsTup (.tup es n p)
theorem aFn {e:E}(h:tD e=true):IsTup e:=by
 cases e <;> first |exact .mk |cases h
inductive TM (ts:List NP):E→Prop
 |mk {a b:NP} {es:List E} {o x:Expr} {m:PySem.Str} {op p':Pos} {n:Nat} (ht:ts=[a,b]) (he:bs es=[.Attribute o m op,x]) (ne:a.1≠b.1):TM ts (.tup es n p')
theorem aFo {e:E}(h:vX e=true):∃o m op,e.b=.Attribute o m op:=by
 cases e <;> first |exact ⟨_,_,_,rfl⟩ |cases h
theorem aFp {ts:List NP}{e:E}(h:QD ts e=true):tD e=false∨TM ts e:=xA h (fun h=>.inl (dZ h)) fun h=>by
 cases h0:tD e with
 |false=>exact .inl rfl
 |true=>
  cases aFn h0 with | @mk es n p'=>
  have h:(match two ts,two es with |some (a,b),some (u,_)=>vX u && !(aC a.1 b.1) |_,_=>false)=true:=h
  cases h1:two ts with
  |none=>rw [h1] at h; cases h
  |some q=>cases h2:two es with
   |none=>rw [h1,h2] at h; cases h
   |some r=>
    rw [h1,h2] at h
    refine aP (show (vX r.1 && !(aC q.1.1 q.2.1))=true from h) fun h3 h4=>.inr ?_
    obtain ⟨o,m,op,h5⟩:=aFo h3
    exact .mk (DF h1) (by rw [DF h2]; show [r.1.b,r.2.b]=_; rw [h5]) fun e=>by rw [e,fV] at h4; cases h4
theorem aFq {G:Gl}{e:E}{σ:Sg}{d:EV}(hd:ev G e σ=some d)(l:List Expr)(k n:Nat)(p:Pos)(env:Env):swapsWith e.b (some (.Tuple l k p)) n env=pure false:=by
 cases e <;> first |rfl |exact no hd
theorem aFr {G:Gl}{e:E}{σ:Sg}{d:EV}(hd:ev G e σ=some d)(ht:tD e=false)(l:List Expr)(k:Nat)(p:Pos)(env:Env):swappedStores [.Tuple l k p] e.b env=pure none:=by
 cases e <;> first |rfl |exact no hd |cases ht
section
variable {T:Th}{G:Gl}{p tp:Pos}{e:V.E}{σ:Sg}{env:Env}{ts:List NP}{k:Nat}
theorem aFs {M:Program}{w:World}{A:Around}{C:Cx}{K:Ks}{X B:Addr→Prop}{s:Shared}{σ':Sg}{a b:NP}{d:PV}{v:Value}{Q:Unit→Shared→Prop}{E:Value→Shared→Prop}(hh:A.handled=none)(c:aK C K X B env s.heap σ)(ne:a.1≠b.1)(hd:∃l,d=.tuple l)(q:Rep C X s.heap d v)(hb:bK K (.tup [a,b] k tp) d σ=some σ')
  (h:∀s',StR C K X B env s σ' s'→Q () s'):wpAny (model M w) A (unpackItems v [mkS a.1,mkS b.1].length none) (fun items s₂=>wpAny (model M w) A (assignInOrder ([mkS a.1,mkS b.1].reverse.map fun n=>bindName env n) items.reverse) Q E s₂) E s:=by
 obtain ⟨l,rfl⟩:=hd
 cases q with | @mk t its n xt g r=>
 refine oif hb fun hn hb=>aP hn fun h1 hn=>aP hn fun h2 zz=>?_
 cases l with
 |nil=>exact no hb
 |cons d1 l=>cases l with
  |nil=>exact no hb
  |cons d2 l=>cases l with
   |cons d3 l=>exact no hb
   |nil=>
    cases hb
    cases r with | @mk v1 _ r1 r=>cases r with | @mk v2 _ r2 r=>
    cases r
    refine wpAny_unpackItems_tuple (items:=#[v1,v2]) hh ⟨_,g,rfl,n,rfl⟩ fun h' hs=>?_
    have x1:=RT hs
    have e1:=c.keep x1.keep
    show wpAny _ _ (do holding [v1] (bindName env (mkS b.1) v2); assignInOrder [bindName env (mkS a.1)] [v1]) _ _ _
    refine wpAny_bind (wpAny_holding (wpAny_bindName (fL e1 h2 (.fz e1 (Rep.keep (.nox x1.keep) d2 r2)) _ E fun zz s₂ q2=>?_)))
    show wpAny _ _ (do holding [] (bindName env (mkS a.1) v1); assignInOrder [] []) _ _ _
    refine wpAny_bind (wpAny_holding (wpAny_bindName (fL q2.e h1 (.fz q2.e (Rep.keep (.of (q2.x.keep.mono fun a f=>e1.fra f.fra)) d1 (Rep.keep (.nox x1.keep) d1 r1))) _ E fun zz s₃ q3=>wpAny_pure (h _ ⟨x1.any.trans (q2.x.trans q3.x),q3.e.sub (aFm ne)⟩))))
theorem aFt (hG:∀A,T.P A→Bud A)(he:aF T G e):cW T G (.tup ts k tp e p):=fun σ fl σ' h=>jW (G:=fun fl=>jH T G (.tup ts k tp e p) σ fl σ') h fun h=>oif h fun ht h=>aP ht fun ht zz=>aB h fun d hd hb A X B env s c Q E q=>by
 have hd:=bR hd
 have hh:=(hG A c.pa).handled
 have sw:swapsWithSole [.Tuple (ts.map NP.b) k tp] e.b p.line env=pure false:=aFq hd (ts.map NP.b) k p.line tp env
 have plain:swappedStores [.Tuple (ts.map NP.b) k tp] e.b env=pure none→wpAny (model T.prog T.w) A (exec (.Assign [.Tuple (ts.map NP.b) k tp] e.b p) env) Q E s:=fun hw=>
  PyProof.Rows.Assign_Tuple (he σ _ hd A X env s c.c _ E fun v s₁ r=>have e1:=c.e.keep r.x.keep
   CN (t:=.tup ts k tp) hh hb e1 (.fz r.r) _ E fun zz s₂ q2=>q _ _ ((q2.out e1).pre (.nox r.x))) sw hw
 refine (aFp ht).elim (fun ht=>plain (aFr hd ht _ _ _ _)) fun tt=>?_
 cases tt with | @mk a b es o x m op p' n hts hb' ne=>
 subst hts
 have two:=aFl (ap:=a.2) (bp:=b.2) (k:=k) (k':=n) (p:=tp) (p':=p') (o:=o) (x:=x) (m:=m) (op:=op) (env:=env) fun e=>ne (qF e)
 rw [←hb'] at two
 refine two.elim plain fun hw=>PyProof.Rows.Assign_Tuple_swapped (he σ _ hd A X env s c.c _ E fun v s₁ r=>?_) sw hw
 have hl:∃l,d=.tuple l:=aB hd fun l zz h=>oif h fun zz h=>⟨l,by cases h; rfl⟩
 have e1:=c.e.keep r.x.keep
 exact aFs hh e1 ne hl r.r hb fun s' q2=>q _ _ ((q2.out e1).pre (.nox r.x))
end
section
variable {C:Cx}{X:Addr→Prop}{h:Heap}
theorem RepF.put {a:Nm}{d:PV}{v:Value}(hd:Rep C X h d v):∀{fs:List (Nm × PV)} {m:PySem.Str→Option Value},RepF C X h fs m→RepF C X h (aU a d fs) (fun y=>if y=mkS a then some v else m y)
 |[],m,r=>⟨hd,fun zz=>rfl,fun y=>by rw [r]⟩
 |(x,d')::fs,m,r=>by
  cases r with | @mk u m' r1 r2 r3=>
  show RepF C X h (bif aC x a then (x,d)::fs else (x,d')::aU a d fs) _
  by_cases e:x=a
  ·subst e
   rw [fV]
   refine ⟨hd,r2,fun y=>?_⟩
   by_cases hy:y=mkS x
   ·rw [if_pos hy,if_pos hy]
   ·rw [if_neg hy,if_neg hy,r3,if_neg hy]
  ·rw [nL e]
   refine ⟨r1,RepF.put hd r2,fun y=>?_⟩
   by_cases hy:y=mkS a
   ·rw [if_pos hy,if_pos hy,if_neg fun e'=>e (qF (e'.symm.trans hy))]
   ·rw [if_neg hy,if_neg hy,r3]
theorem RepF.within:∀{fs:List (Nm × PV)} {m:PySem.Str→Option Value},RepF C X h fs m→Within m (fs.map fun p=>mkS p.1)
 |[],m,r=>fun y hy=>absurd (r y) hy
 |(x,d')::fs,m,r=>fun y hy=>by
  cases r with |mk r1 r2 r3=>
  rw [r3] at hy
  by_cases e:y=mkS x
  ·exact e▸.head _
  ·rw [if_neg e] at hy
   exact .tail _ (RepF.within r2 y hy)
end
section
variable {T:Th}{G:Gl}{o a:Nm}{op ap p:Pos}{e:V.E}
theorem aFu (hG:aY T G)(he:aF T G e):cW T G (.attr o op a ap e p):=fun σ fl σ' h=>jW (G:=fun fl=>jH T G (.attr o op a ap e p) σ fl σ') h fun h=>dI h fun hd h=>oif h fun hf h=>aP hf fun hf hlc=>aB h fun fs hs h=>oif h fun hn h=>aB hs fun sl hx hs A X B env s c Q E k=>by
 cases sl with
 |self fs'=>
  cases Option.some.inj hs
  cases hv:bB (ev G e σ) with
  |none=>rw [hv] at h; cases h
  |some d=>
   rw [hv] at h
   cases h
   refine plainObj_wpAny_Assign_Attribute (he σ _ (bR hv) A X env s c.c _ E fun v s₁ q=>?_) (TJ (dZ hlc) (bR hv) _ _)
   have e1:=c.e.keep q.x.keep
   obtain ⟨ov,ow⟩:=e1.own1 hx
   refine wpAny_Name (iE e1.fn ow.n ?_) (jC hd)
   have me:=ow.r.1
   have iv:=ow.r.2
   cases iv with | @mk b dd ob mA xb xd ne g oc od on nd rf=>
   have cat:At T A X s₁:=⟨c.pa,e1.base,e1.newB,e1.bnd⟩
   refine hG.sto a hf A X s₁ b mA _ v cat (e1.newB b xb) ⟨_,g,oc,on,.inr ⟨dd,od,ne,nd⟩⟩ rf.within (by rw [List.length_map]; exact Nat.le_of_lt (dec hn)) _ E fun zz s' sr=>k _ _ (.pre (.nox q.x) ?_)
   obtain ⟨o1,g1,oc1,od1,_,hdd⟩:=sr.self _ g
   have dd1:=hdd dd od
   have kO:aG (aT s₁.heap (.self fs) (.ref b)) s₁.heap s'.heap:=fun c o' g' n=>sr.keep c o' (fun e=>n (e▸.me)) (fun o₀ dx e1 e2 e3=>n (e3▸.dict e1 e2)) g'
   have nd2:s'.heap.Ns1 dd (fun y=>if y=mkS a then some v else mA y):=by
    obtain ⟨o2,g2,_,_,hdict⟩:=sr.inst
    cases g1.symm.trans g2
    refine hdict.elim (fun h=>?_) fun ⟨d2,h1,_,h3⟩=>?_
    ·rw [dd1] at h; cases h.1
    ·cases dd1.symm.trans h1; exact h3
   have wX:∀c,aT s₁.heap (.self fs) (.ref b) c→X c∧¬ B c:=ow.w
   have fit:=Fit.of (kO.mono fun c w=>(wX c w).1)
   refine ⟨⟨fun zz=>id,fun zz zz zz=>id,kO.mono wX,sr.os,sr.gens⟩,ow.put s'.heap (.self (aU a d fs)) kO (fun c w=>?_) ⟨me,xb,xd,ne,g1,oc1.trans oc,dd1,fun c=>od1▸on c,nd2,RepF.put (Rep.keep fit d q.r) (RepF.keep fit fs rf)⟩ fun c w=>?_,.next⟩
   ·cases w with
    |me=>exact ⟨_,g1⟩
    |dict g2 e=>
     cases g.symm.trans g2
     cases od.symm.trans e
     obtain ⟨o3,_,_,g3,_⟩:=nd2
     exact ⟨o3,g3⟩
   ·cases w with
    |me=>exact .me
    |dict g2 e=>
     cases g1.symm.trans g2
     cases dd1.symm.trans e
     exact .dict g od
 |_=>exact no hs
end
section
variable {prog:Program}{w:World}{A:Around}{E:Value→Shared→Prop}{s:Shared}
noncomputable abbrev B8 (b:List Nat):Array UInt8:=(b.map fun c=>c.toUInt8).toArray
open KBw in
theorem aFv {b:Array UInt8}{t:Tok}{Q:Value→Shared→Prop}(hQ:Q (.ref s.heap.objs.size) {s with heap:=s.heap.push {cls:=.type "bytes_iterator",data:=.fields #[.bytes b t,.int 0 0]}}):
  wpAny (model prog w) A (call (.builtin "iter") [.bytes b t]) Q E s:=by
 refine Calls.call_function_entry (by decide +kernel) (by decide +kernel) kdk_entry_iter (kdk_args_iter _) ?_
 unfold Builtin.«iter»
 refine wpAny_bind (m:=someArgs "iter" 1 2 _) (wpAny_of_eq (a:=[Value.bytes b t]) (by first |rfl |kernel_rfl!) ?_)
 show wpAny _ _ (pyIter (.bytes b t)>>=_) _ _ _
 refine wpAny_bind (pyIter_bytes ?_)
 exact wpAny_pure ⟨_,rfl,hQ⟩
open KBw in
theorem aFw {b:Array UInt8}{t:Tok}{it:Addr}{i:Nat}{c:UInt8}{Q:Option Value→Shared→Prop}(hit:IsBytesIter s.heap it b t i)(hx:b[i]?=some c)
  (hQ:∀h',IsBytesIter h' it b t (i+1)→Heap.SameBut it s.heap h'→Q (some (.int (c.toNat:Int) s.toks)) {s with heap:=h',toks:=s.toks+1}):wpAny (model prog w) A (callSpecial? (.ref it) (Str.ofString "__next__")) Q E s:=by
 obtain ⟨o,ho,hc,hd⟩:=id hit
 refine wpAny_callSpecial?_slot (name:=PySem.Str.ofString "__next__") (iter_typeIs hit) slot_next
  (wpAny_call_entry slot_next (iter_typeIs hit) entry_next ?_ (args_next _))
 show wpAny _ _ (field (.ref it) 0>>=_) _ _ s
 refine wpAny_bind (wpAny_field ho hd (x:=.bytes b t) rfl ?_)
 show wpAny _ _ (if (Value.bytes b t==Value.none)=true then _ else _) _ _ s
 rw [if_neg (show ¬ ((Value.bytes b t==Value.none)=true) from Bool.false_ne_true)]
 show wpAny _ _ (field (.ref it) 1>>=_) _ _ s
 refine wpAny_bind (wpAny_field ho hd (x:=.int i 0) rfl ?_)
 refine wpAny_bind (wpAny_of_eq (a:=b) rfl ?_)
 simp only [Int.toNat_natCast,hx]
 refine wpAny_bind (wpAny_setField ho hd (by simp) (wpAny_bind (wpAny_mkInt (wpAny_pure ⟨_,rfl,hQ _ ?_ (Heap.SameBut.update ..)⟩))))
 exact ⟨_,Heap.get?_update_self _ ho (Obj.isFreed_of_fields (Obj.data_mapFields hd _)),(Obj.cls_mapFields ..).trans hc,by
  rw [Obj.data_mapFields hd]; simp [rawInt]⟩
open KBw in
theorem aFx {b:Array UInt8}{t:Tok}{it:Addr}{i:Nat}{c:UInt8}{Q:Value→Shared→Prop}(hit:IsBytesIter s.heap it b t i)(hx:b[i]?=some c)
  (hQ:∀h',IsBytesIter h' it b t (i+1)→Heap.SameBut it s.heap h'→Q (.int (c.toNat:Int) s.toks) {s with heap:=h',toks:=s.toks+1}):wpAny (model prog w) A (call (.builtin "next") [.ref it]) Q E s:=by
 refine Calls.call_function_entry (by decide +kernel) (by decide +kernel) kdk_entry_next (kdk_args_next _) ?_
 unfold Builtin.«next»
 refine wpAny_bind (m:=someArgs "next" 1 2 _) (wpAny_of_eq (a:=[Value.ref it]) (by first |rfl |kernel_rfl!) ?_)
 dsimp only
 refine wpAny_bind (wpAny_specialOf (name:=Str.ofString "__next__") (iter_typeIs hit) slot_next.lookup ?_)
 refine wpAny_ite_split (fun hab=>absurd hab (by decide)) (fun zz=>?_)
 exact wpAny_bind (aFw hit hx fun h' hit' hs=>wpAny_pure ⟨_,rfl,hQ h' hit' hs⟩)
theorem aFy:typeLookup (.type "bytes_iterator") "__len__" = pure none:=by rw [typeLookup_type,builtinLookup_eq_fast]; kernel_rfl
theorem aFz:typeLookup (.type "bytes_iterator") "__length_hint__" = pure (some (.builtin "bytes_iterator.__length_hint__")):=by rw [typeLookup_type,builtinLookup_eq_fast]; kernel_rfl
open KBw in
theorem aF0 {b:Array UInt8}{t:Tok}{it:Addr}{i:Nat}{Q:Bool→Shared→Prop}(hit:IsBytesIter s.heap it b t i)(h:Q false s):wpAny (model prog w) A (Builtin.List.listLengthHint (.ref it)) Q E s:=by
 unfold Builtin.List.listLengthHint
 refine wpAny_bind (wpAny_specialOf (iter_typeIs hit) aFy ?_)
 show wpAny _ A (specialOf (Value.ref it) (Str.ofString "__length_hint__")>>=_) _ _ _
 refine wpAny_bind (wpAny_specialOf (iter_typeIs hit) aFz ?_)
 generalize hid:("bytes_iterator.__length_hint__" : String)=id0
 wp_delta
 rw [show splitId id0=some ("bytes_iterator", "__length_hint__") from by subst hid; decide +kernel]
 subst hid
 refine wpAny_bind (wpAny_isInstance (T := "bytes_iterator") (b:=true) (iter_typeIs hit) (by rw [isSubtype_type]; kernel_rfl) ?_)
 refine wpAny_ite_split (fun hab=>absurd hab (by decide)) (fun zz=>?_)
 refine wpAny_ite_split (fun zz=>?_) (fun hab=>absurd (by decide +kernel) hab)
 refine wpAny_ite_split (fun hab=>absurd hab (by decide +kernel)) (fun zz=>?_)
 exact wpAny_pure h
open KBw in
theorem aF1 {it:Addr}{b:Array UInt8}{t:Tok}{i:Nat}{Q:Option Value→Shared→Prop}(hh:A.handled=none)(hit:IsBytesIter s.heap it b t i)(hx:b[i]?=none)
  (hQ:∀h',Heap.ExtBut it s.heap h'→(∃o,h'.get? it=some o)→Q none {s with heap:=h'}):wpAny (model prog w) A (pyNext (.ref it)) Q E s:=by
 obtain ⟨o,ho,hc,hd⟩:=id hit
 unfold pyNext
 refine wpAny_bind (wpAny_attempt (wpAny_callSpecial?_slot (name:=PySem.Str.ofString "__next__") (iter_typeIs hit) slot_next
  (wpAny_call_entry slot_next (iter_typeIs hit) entry_next ?_ (args_next _))))
 show wpAny _ _ (field (.ref it) 0>>=_) _ _ s
 refine wpAny_bind (wpAny_field ho hd (x:=.bytes b t) rfl ?_)
 show wpAny _ _ (if (Value.bytes b t==Value.none)=true then _ else _) _ _ s
 rw [if_neg (show ¬ ((Value.bytes b t==Value.none)=true) from Bool.false_ne_true)]
 show wpAny _ _ (field (.ref it) 1>>=_) _ _ s
 refine wpAny_bind (wpAny_field ho hd (x:=.int i 0) rfl ?_)
 refine wpAny_bind (wpAny_of_eq (a:=b) rfl ?_)
 simp only [Int.toNat_natCast,hx]
 refine wpAny_bind (wpAny_rule (wpAny_bind (wpAny_setField ho hd (by simp) ?_)))
 have hex:=Heap.get?_update_self (Obj.mapFields (·.setIfInBounds 0 Value.none)) ho (Obj.isFreed_of_fields (Obj.data_mapFields hd _))
 show wpAny _ _ (newExc (.type "StopIteration") []>>=_) _ _ _
 refine wpAny_bind ?_
 simp only [newExc,newTuple]
 refine wpAny_bind (wpAny_newObj_type ?_ (by size_fits))
 refine wpAny_bind (m:=firstArgMember _ _) (wpAny_of_eq (a:=Value.none) (by first |rfl |(simp only [firstArgMember]; rfl)) ?_)
 refine wpAny_newObj_type ?_ (by size_fits)
 simp only [raiseNew]
 refine wpAny_bind (wpAny_handled ?_)
 rw [show A.in1.handled=none from hh]
 refine wpAny_bind (wpAny_pure (wpAny_throw ?_))
 refine wpAny_bind (wpAny_isInstance (T := "StopIteration") (b:=true) ⟨_,Heap.get?_push_size _ rfl,rfl⟩ isSubtype_stop ?_)
 exact wpAny_pure (hQ _ (((Heap.SameBut.update ..).extBut.push _).push _) ⟨_,Heap.get?_push_of_some _ (Heap.get?_push_of_some _ hex)⟩)
open KBw in
theorem aF2 {R:Result→Shared→Prop}{it:Addr}{b:Array UInt8}{t:Tok}{i:Nat}(hh:A.handled=none)(hit:IsBytesIter s.heap it b t i)(hx:b[i]?=none)(S:Addr)(res:Value)(c₀:Nat)
  (hS:s.heap.get? S=some {cls:=.type "list",data:=.seq #[] c₀})
  (hR:∀h' tk c',(∀a o,a≠S→a≠it→s.heap.get? a=some o→h'.get? a=some o)→h'.get? S=some (aS [] c')→(∃o,h'.get? it=some o)→R (.ok (.ret res)) {s with heap:=h',toks:=tk}) :
  wpAny (model prog w) A.in1 (Builtin.List.listExtendWith (.ref S) (.ref it) res)
   (fun fin s'=>match fin with |.done f=>R (.ok f) s' |.again c'=>c'.quiet=true∧codeAny (model prog w) A c' R s') (fun e s'=>R (.error e) s') s:=by
 have hSr:S≠it:=fun e=>by
  obtain ⟨o,ho,hc,hd⟩:=hit
  rw [e,ho] at hS
  cases hS
  exact absurd (Value.type.inj hc) (by decide)
 unfold Builtin.List.listExtendWith
 refine wpAny_bind (wpAny_typeOf (T := "bytes_iterator") (iter_typeIs hit) ?_)
 have h1:Builtin.List.listSameRef (.ref S) (.ref it)=false:=by simp [Builtin.List.listSameRef,hSr]
 have h2:(Value.type "bytes_iterator" == Value.type "list")=false:=by decide
 have h3:(Value.type "bytes_iterator" == Value.type "tuple")=false:=by decide
 simp only [h1,h2,h3,Bool.or_false,Bool.false_eq_true,if_false]
 refine wpAny_bind (pyIter_self hit ?_)
 refine wpAny_bind (wpAny_holding (aF0 hit ?_))
 refine wpAny_ite_split (fun hab=>absurd hab (by decide)) (fun zz=>wpAny_pure ⟨plainId_quiet F.plain_extend_loop _,?_⟩)
 refine codeAny_builtin F.entry_extend_loop ?_
 rw [Around.under_plainId F.plain_extend_loop _]
 show wpAny _ A.in1 (pyNext (.ref it)>>=_) _ _ s
 refine wpAny_bind (aF1 (A:=A.in1) hh hit hx fun h' he' hex=>?_)
 exact wpAny_pure (hR h' s.toks c₀ (fun a o h1 h2 e=>he' a o h2 e) (he' _ _ hSr hS) hex)
open KBw in
theorem aF3 {Q:Value→Shared→Prop}{it:Addr}{b:Array UInt8}{t:Tok}{i:Nat}(hh:A.handled=none)(hit:IsBytesIter s.heap it b t i)(hx:b[i]?=none)
  (hQ:∀h' tk c',(∀a o,a≠it→s.heap.get? a=some o→h'.get? a=some o)→h'.get? s.heap.objs.size=some (aS [] c')→(∃o,h'.get? it=some o)→Q (.ref s.heap.objs.size) {s with heap:=h',toks:=tk}) :
  wpAny (model prog w) A (call (.type "list") [.ref it]) Q E s:=by
 refine callType_codes (Q₁:=fun obj s₁=>obj=.ref s.heap.objs.size∧s₁={s with heap:=s.heap.push {cls:=.type "list",data:=.seq #[]}}) F.called_list (F.typeCall_list_1 _) F.entry_list_init
  (code_list_new _ ⟨rfl,rfl⟩) fun obj s₁ h₁=>?_
 obtain ⟨rfl,rfl⟩:=h₁
 have hS:(s.heap.push {cls:=.type "list",data:=.seq #[]}).get? s.heap.objs.size=some {cls:=.type "list",data:=.seq #[]}:=Heap.get?_push_size _ rfl
 refine ⟨⟨_,hS,rfl⟩,F.args_list_init_2 _ _,?_⟩
 obtain ⟨o,ho,hc,hd⟩:=hit
 have hne:it≠s.heap.objs.size:=Nat.ne_of_lt (Heap.lt_size ho)
 show wpAny _ _ (do let old ←Builtin.List.listItems (.ref s.heap.objs.size); Builtin.List.listUpdate (.ref s.heap.objs.size) (fun zz=>#[]); letGo old.toList.reverse; Builtin.List.listExtendWith (.ref s.heap.objs.size) (.ref it) .none) _ _ _
 refine wpAny_bind ?_
 unfold Builtin.List.listItems
 refine wpAny_bind (wpAny_seqItems hS rfl (wpAny_pure ?_))
 show wpAny _ _ (updateSeq s.heap.objs.size (fun zz=>#[])>>=fun zz=>letGo (#[]:Array Value).toList.reverse>>=fun zz=>Builtin.List.listExtendWith (.ref s.heap.objs.size) (.ref it) .none) _ _ _
 refine wpAny_bind (wpAny_updateSeq hS rfl ?_)
 have hS₂:=Heap.get?_update_self (Obj.mapSeq (fun zz=>(#[]:Array Value))) hS rfl
 have oth:∀b o,b≠s.heap.objs.size→s.heap.get? b=some o→((s.heap.push {cls:=.type "list",data:=.seq #[]}).update s.heap.objs.size (Obj.mapSeq (fun zz=>(#[]:Array Value)))).get? b=some o:=
  fun b o hb e=>(Heap.get?_update_other _ _ (Ne.symm hb)).trans (Heap.get?_push_of_some _ e)
 refine wpAny_bind (wpAny_letGo ?_)
 refine aF2 (A:=A.in1) hh ⟨o,oth it o hne ho,hc,hd⟩ hx _ .none _ hS₂ fun h' tk c' hk hS' hex=>?_
 exact ⟨rfl,hQ h' tk c' (fun a o h1 e=>hk a o (Nat.ne_of_lt (Heap.lt_size e)) h1 (oth a o (Nat.ne_of_lt (Heap.lt_size e)) e)) hS' hex⟩
end
theorem aF4 {b:List Nat}{k c:Nat}(h:b[k]?=some c)(hb:∀c∈b,c<256):(B8 b)[k]?=some c.toUInt8∧(c.toUInt8.toNat:Int)=Int.ofNat c:=by
 refine ⟨by rw [List.getElem?_toArray,List.getElem?_map,h]; rfl,congrArg Int.ofNat ?_⟩
 show (UInt8.ofNat c).toNat=c
 rw [UInt8.toNat_ofNat']
 exact Nat.mod_eq_of_lt (hb c (List.mem_of_getElem? h))
theorem aF5 {b:List Nat}{k:Nat}(h:b.drop k=[]):(B8 b)[k]?=none:=by
 rw [List.getElem?_toArray,List.getElem?_map,List.getElem?_eq_none (List.drop_eq_nil_iff.mp h)]; rfl
noncomputable abbrev aF6 (b:List Nat):List PV:=b.map fun c=>.int (Int.ofNat c)
section
variable {C:Cx}{K:Ks}{X B:Addr→Prop}{env:Env}{s:Shared}{σ:Sg}{x:Nm}{tg:Option Nat}{xs:List PV}
structure TN (C:Cx)(K:Ks)(X B:Addr→Prop)(env:Env)(s:Shared)(σ:Sg)(x:Nm)(tg:Option Nat)(xs:List PV)(a:Addr):Prop where
 n:bJ env s.heap (mkS x) (.ref a)
 q:ItV tg X s.heap xs (.ref a)
 w:X a∧¬ B a
 put:∀{s':Shared} {r:List PV},Ext (fun b=>b=a) s s'→ItV none X s'.heap r (.ref a)→aK C K X B env s'.heap (aU x (.iter tg r) σ)
theorem DG (e:aK C K X B env s.heap σ)(hx:aD x σ=some (.iter tg xs)):∃a,TN C K X B env s σ x tg xs a:=by
 obtain ⟨v,o⟩:=e.own1 hx
 have hr:ItV tg X s.heap xs v:=o.r
 cases hr with | @mk a _ _ _ _ ht xa hb g oc od e=>
 refine ⟨a,o.n,⟨ht,xa,hb,g,oc,od,e⟩,o.w a rfl,fun {s' r} x1 q=>?_⟩
 cases q with |mk _ xa' hb' g' oc' od' e'=>
 exact o.put s'.heap (.iter tg r) (x1.keep.mono fun b e=>e▸rfl) (fun b w=>by cases w; exact ⟨_,g'⟩) ⟨ht,xa',hb',g',oc',od',e'⟩ fun b w=>w
end
section
variable {T:Th}{G:Gl}{x f it:Nm}{xp fp ip cp p:Pos}{σ:Sg}{A:Around}{X B:Addr→Prop}{env:Env}{s:Shared}{E:Value→Shared→Prop}
theorem xC (hG:aY T G){vf v:Value}{Q:Value→Shared→Prop}(c:bE T G σ A X env s)(hgl:cC G.sc f=true)(gv:GV T.C f vf)(n:bJ env s.heap (mkS it) v)(hd:aC it eQ=false)(hk:iH (model T.prog T.w) A vf s)
  (h:wpAny (model T.prog T.w) A (PySem.call vf [v]) Q E s):wpAny (model T.prog T.w) A (eval (.Call (.Name (mkS f) fp) [.Name (mkS it) ip] [] cp) env) Q E s:=
 Call_ (gname hG hgl gv c (tJ rfl (tK _ rfl (wpAny_items_cons (wpAny_Name (iE c.e.fn n (wpAny_items_nil ⟨hk,h⟩)) (jC hd)) rfl))))
theorem TP {C:Cx}{K:Ks}{M:Model}{tg:Option Nat}{xs r:List PV}{a:Addr}{d:PV}{v:Value}{s₁:Shared}(o:TN C K X B env s σ it tg xs a)(hst:dX K x=true)(x1:Ext (fun b=>b=a) s s₁)(q:ItV none X s₁.heap r (.ref a))(rd:Rep C X s₁.heap d v):
  Tr M A (storeName env (mkS x) v) s₁ (fun zz s₂=>bV C K env X B s .next (aU x (.fz d) (aU it (.iter tg r) σ)) .next s₂):=fun Q E k=>
 have e1:=o.put x1 q
 fL e1 hst (.fz e1 rd) _ E fun zz s₂ q2=>k _ _ ((q2.out e1).pre (.wr x1 fun b e=>e▸o.w))
theorem aF7 {C:Cx}{K:Ks}{M:Model}{D:Addr}{r:List PV}{s₁:Shared}(e:aK C K X B env s.heap σ)(hst:dX K x=true)(x1:Ext NoX s s₁)(nw:s.heap.get? D=none)(ok:ItV none (Or2 X fun b=>b=D) s₁.heap r (.ref D)):
  Tr M A (storeName env (mkS x) (.ref D)) s₁ (fun zz s₂=>bV C K env X B s .next (aU x (.iter none r) σ) .next s₂):=fun Q E k=>by
 have gD:∃o,s₁.heap.get? D=some o:=by cases ok with |mk _ _ _ g=>exact ⟨_,g⟩
 have nB:¬ B D:=fun b=>(e.bnd D (e.bX D b)).elim fun o g=>by rw [nw] at g; cases g
 have e1:=e.grow (N:=fun b=>b=D) x1.keep (fun b e=>e▸nw) fun b e=>e▸gD
 have e2:=e1.lessB (B:=B) fun zz=>.inl
 exact fL e2 hst (.fresh (sl:=.iter none r) e1 ok fun b w=>by cases w; exact ⟨rfl,nB⟩) _ E fun zz s₂ q2=>k _ _ ((q2.out e2).pre (.grow x1 fun b (e:b=D)=>e▸nw))
theorem aF8 (hG:aY T G):cW T G (.next x xp it ip fp cp p):=fun σ fl σ' h=>oif h fun hc h=>aP hc fun hst hgl=>aB h fun q hq h=>dI hq fun hd hq=>aB hq fun sl hx hq A X B env s c Q E k=>by
 cases sl with
 |iter tg xs=>
  cases hq
  cases xs with
  |nil=>exact no h
  |cons d r=>
   cases h
   obtain ⟨a,o⟩:=DG c.e hx
   cases o.q with | @mk _ b t j ob ht xa hb g oc od hxs=>
   have hdr:∃c l,b.drop j=c::l:=by
    cases q:b.drop j with
    |nil=>rw [q] at hxs; cases hxs
    |cons c l=>exact ⟨c,l,rfl⟩
   obtain ⟨n,l,hdr⟩:=hdr
   rw [hdr] at hxs
   cases hxs
   have hn:b[j]?=some n:=by rw [←List.head?_drop,hdr]; rfl
   obtain ⟨u1,u2⟩:=aF4 hn hb
   refine wpAny_Assign_Name (xC hG c.c hgl (hG.bval (pS,_) (.tail _ (.tail _ (.tail _ (.tail _ (.head _)))))) o.n hd (qQ _) (aFx ⟨ob,g,oc,od⟩ u1 fun h' hit' hs'=>?_))
   obtain ⟨o',g',oc',od'⟩:=hit'
   have hv:dY (Int.ofNat n) (.int (n.toUInt8.toNat:Int) s.toks):=by rw [u2]; exact .mk _
   have hl:l=b.drop (j+1):=by rw [←List.drop_drop,hdr]; rfl
   exact TP (s₁:={s with heap:=h',toks:=s.toks+1}) (d:=.int (Int.ofNat n)) o hst ⟨fun c o2 e ne=>(hs'.2 c ne).trans e,rfl,rfl⟩ (.mk nofun xa hb g' oc' od' (congrArg aF6 hl)) hv _ E fun zz s₂ q=>k _ _ q
 |_=>exact no hq
theorem aF9 (hG:aY T G):cW T G (.icall x xp f fp it ip cp p):=fun σ fl σ' h=>oif h fun hc h=>aP hc fun hst hgl=>aB h fun q hq h=>dI hq fun hd hq=>aB hq fun sl hx hq A X B env s c Q E k=>by
 cases sl with
 |iter tg xs=>
  cases hq
  cases hi:G.icall f xs with
  |none=>rw [hi] at h; cases h
  |some dr=>
   rw [hi] at h
   cases h
   cases hG.icall f xs dr.1 dr.2 hi with |mk gv io=>
   obtain ⟨a,o⟩:=DG c.e hx
   cases o.q with | @mk _ b t j ob ht xa hb g oc od hxs=>
   exact wpAny_Assign_Name (xC hG c.c hgl gv o.n hd (io.keep A s c.e.base) (io.run A X s a c.c.at ⟨nofun,xa,hb,g,oc,od,hxs⟩ _ E fun v s₁ ir=>TP o hst ir.x ir.sl ir.r _ E fun zz s₂ q=>k _ _ q))
 |_=>exact no hq
theorem aFA (hG:aY T G):cW T G (.iter x xp it ip fp cp p):=fun σ fl σ' h=>dI h fun hd h=>oif h fun hc h=>aP hc fun hst hgl A X B env s c Q E k=>by
 cases hb:(aD it σ).bind fun s=>(PY s).bind QG with
 |none=>rw [hb] at h; cases h
 |some b=>
  rw [hb] at h
  cases h
  refine aB hb fun sl hx hb=>aB hb fun d hf hb=>?_
  cases sl with
  |fz d'=>
   cases hf
   cases d with
   |bytes b'=>
    cases hb
    obtain ⟨v,n,r⟩:=c.e.slot hx
    have r:ByV b v:=r
    cases r with |mk t hb=>
    refine wpAny_Assign_Name (xC hG c.c hgl (hG.bval (pR,_) (.tail _ (.tail _ (.tail _ (.head _))))) n hd (qQ _) (aFv ?_))
    exact aF7 c.e hst (Ext.pushed _ _ _) (jE (Nat.le_refl _)) (.mk (o:={cls:=.type "bytes_iterator",data:=.fields #[.bytes (B8 b) t,.int 0 0]}) nofun (.inr rfl) hb (Heap.get?_push_size _ rfl) rfl rfl rfl) _ E fun zz s₂ q=>k _ _ q
   |_=>exact no hb
  |_=>exact no hf
end
theorem TQ (x:Nm):∀σ:Sg,aD x (frz σ)=(aD x σ).map lU
 |[]=>rfl
 |p::r=>by
  show (bif aC p.1 x then some (lU p.2) else aD x (frz r))=Option.map lU (bif aC p.1 x then some p.2 else aD x r)
  cases aC p.1 x with
  |true=>rfl
  |false=>exact TQ x r
inductive FzY (B:Addr→Prop)(env:Env)(h:Heap)(σ:Sg)(V:Nm→Value):Addr→Prop
 |b {a:Addr} (b:B a):FzY B env h σ V a
 |fra {a:Addr} (f:Fra env a):FzY B env h σ V a
 |own {x:Nm} {sl:Slot} {a:Addr} (hx:aD x σ=some sl) (hk:lU sl=sl) (w:aT h sl (V x) a):FzY B env h σ V a
structure aFB (C:Cx)(K:Ks)(X B:Addr→Prop)(env:Env)(h:Heap)(σ:Sg)(Y:Addr→Prop):Prop where
 b:∀a,B a→Y a
 e:BW C K Y env h (frz σ)
section
variable {C:Cx}{K:Ks}{X B:Addr→Prop}{env:Env}{h:Heap}{σ:Sg}
theorem DH {s:Slot}{v:Value}{a:Addr}(w:aT h (lU s) v a):aT h s v a:=by
 cases s with
 |own xs=>exact w.elim
 |self fs=>exact w.elim
 |_=>exact w
theorem aK.frozen (e:aK C K X B env h σ):∃Y,aFB C K X B env h σ Y:=by
 obtain ⟨V,q⟩:=e.slots
 have YX:∀a,FzY B env h σ V a→X a:=fun a y=>by
  cases y with
  |b b=>exact e.bX a b
  |fra f=>exact e.fra f
  |own hx hk w=>exact ((q.ok _ _ hx).owned a w).1
 have nY:∀x sl,aD x σ=some sl→lU sl≠sl→∀a,aT h sl (V x) a→¬ FzY B env h σ V a:=fun x sl hx ne a w y=>by
  cases y with
  |b b=>exact q.noB x sl hx a w b
  |fra f=>exact q.fra x sl hx a w f
  | @own y _ _ hy hk w'=>
   refine q.apart x y sl _ (fun e=>?_) hx hy a w w'
   rw [e] at hx
   cases Option.some.inj (hx.symm.trans hy)
   exact ne hk
 have fit:Fit X (FzY B env h σ V) h h:=⟨aG.refl _ _,fun a o g n y=>n (YX a y)⟩
 have back:∀{x sl},aD x (frz σ)=some sl→∃s0,aD x σ=some s0∧lU s0=sl:=fun {x sl} hx=>by
  rw [TQ] at hx
  cases h0:aD x σ with
  |none=>rw [h0] at hx; cases hx
  |some s0=>rw [h0] at hx; exact ⟨s0,rfl,Option.some.inj hx⟩
 refine ⟨_,fun a=>.b,e.fn,e.glo,e.bui,e.base,fun a y=>e.newB a (YX a y),e.ns,.fra (.inl rfl),fun y c hc=>⟨.fra (.inr ⟨y,hc⟩),(e.cellX y c hc).2⟩,e.apart,e.kinds,fun a y=>e.bnd a (YX a y),nofun,fun zz zz=>id,V,fun x sl hx=>?_,fun x sl hx=>?_,fun x y sl sl' ne hx hy a wa wb=>?_,fun x sl hx a w=>?_,fun zz zz zz zz zz=>id⟩
 ·exact (back hx).elim fun s0 h0=>q.at_ x s0 h0.1
 ·obtain ⟨s0,h0,rfl⟩:=back hx
  have r:=q.ok x s0 h0
  have nY:=nY x s0 h0
  cases s0 with
  |fz d=>exact Rep.keep fit d r
  |own xs=>
   have r:LV X h aS (Reps C X h xs) (V x):=r
   show LV _ _ _ _ _
   generalize V x=v at r nY ⊢
   cases r with |mk xa g r=>exact ⟨nY nofun _ rfl,g,Reps.keep fit xs r⟩
  |iter tg xs=>exact bU.mono fit r fun a w=>⟨.own h0 rfl w,fun zz=>id⟩
  |own2 t=>exact bU.mono fit r fun a w=>⟨.own h0 rfl w,fun zz=>id⟩
  |self fs=>
   have r:IV C X h (RepF C X h fs) (V x):=r.2
   show IV _ _ _ _ _
   generalize V x=v at r nY ⊢
   cases r with |mk x' xd ne g oc od on nd rf=>exact ⟨nY nofun _ .me,nY nofun _ (.dict g od),ne,g,oc,od,on,nd,RepF.keep fit fs rf⟩
 ·obtain ⟨s0,h0,rfl⟩:=back hx
  obtain ⟨s1,h1,rfl⟩:=back hy
  exact q.apart x y s0 s1 ne h0 h1 a (DH wa) (DH wb)
 ·obtain ⟨s0,h0,rfl⟩:=back hx
  exact q.fra x s0 h0 a (DH w)
theorem aK.gone (e:aK C K X B env h σ){x:Nm}{sl:Slot}{v:Value}(hx:aD x σ=some sl)(n:bJ env h (mkS x) v):aK C K X (Or2 B (aT h sl v)) env h (cO x σ):=by
 obtain ⟨V,q⟩:=e.slots
 cases n.uniq (q.at_ x sl hx)
 have l:=fun {y sl'} (hy:aD y (cO x σ)=some sl')=>tN (P:=fun y=>!(aC y x)) σ hy
 have ne:∀{y sl'},aD y (cO x σ)=some sl'→y≠x:=fun hy e=>by
  have:=(l hy).1
  rw [e,fV] at this
  cases this
 exact ⟨e.fn,e.glo,e.bui,e.base,e.newB,e.ns,e.locX,e.cellX,e.apart,e.kinds,e.bnd,fun a b=>b.elim (e.bX a) fun w=>((q.ok x sl hx).owned a w).1,fun a f b=>b.elim (e.fB a f) fun w=>q.fra x sl hx a w f,V,fun y s hy=>q.at_ y s (l hy).2,fun y s hy=>q.ok y s (l hy).2,fun y z s s' yz hy hz=>q.apart y z s s' yz (l hy).2 (l hz).2,fun y s hy=>q.fra y s (l hy).2,fun y s hy a w b=>b.elim (q.noB y s (l hy).2 a w) fun w'=>q.apart y x s sl (ne hy) (l hy).2 hx a w w'⟩
end
section
variable {T:Th}{G:Gl}{e a b:V.E}{p:Pos}
theorem TR {σ:Sg}{A:Around}{X B B':Addr→Prop}{env:Env}{s:Shared}{d:PV}(c:jG T G σ A X B' env s)(hB:∀a,B a→B' a)(he:aF T G e)(h:bB (ev G e (frz σ))=some d):Tr (model T.prog T.w) A (eval e.b env) s (fun v s₁=>bV T.C G.sc env X B s (.ret d) σ (.ret v) s₁):=fun Q E k=>by
 obtain ⟨Y,f⟩:=c.e.frozen
 exact he _ _ (bR h) A Y env s ⟨c.pa,f.e⟩ _ E fun v s₁ q=>k _ _ ⟨.nox q.x,(c.e.keep q.x.keep).lessB hB,.ret (Rep.keep ⟨aG.refl _ _,fun a o g n b=>n (f.b a (hB a b))⟩ d q.r)⟩
theorem aFC (he:aF T G e):cW T G (.ret e p):=fun σ fl σ' h A X B env s c Q E k=>by
 cases hv:bB (ev G e (frz σ)) with
 |none=>rw [show ex G (.ret e p) σ=(bB (ev G e (frz σ))).map _ from rfl,hv] at h; cases h
 |some d=>
  rw [show ex G (.ret e p) σ=(bB (ev G e (frz σ))).map fun d=>(.ret d,σ) from rfl,hv] at h
  cases h
  exact wpAny_Return_some (TR c (fun zz=>id) he hv _ E fun v s₁ q=>k _ _ q)
theorem aFD (hG:aY T G)(ha:aF T G a){it:Nm}{fp ip cp lp mp q:Pos}:cW T G (.retL it fp ip cp lp mp a b q p):=fun σ fl σ' h=>aB h fun r hq h=>dI hq fun hd hq=>aB hq fun sl hx hq=>oif h fun hc hr=>aP hc fun hn hgl A X B env s c Q E k=>by
 cases sl with
 |iter tg xs=>
  cases hq
  cases xs with
  |cons _ _=>cases hn
  |nil=>
   cases hv:bB (ev G a (frz (cO it σ))) with
   |none=>rw [show tE (ev G a (frz (cO it σ))) (cO it σ)=(bB (ev G a (frz (cO it σ)))).map _ from rfl,hv] at hr; cases hr
   |some d=>
    rw [show tE (ev G a (frz (cO it σ))) (cO it σ)=(bB (ev G a (frz (cO it σ)))).map fun d=>(.ret d,cO it σ) from rfl,hv] at hr
    cases hr
    obtain ⟨ai,o⟩:=DG c.e hx
    cases o.q with | @mk _ bb t j ob ht xa hb g oc od hxs=>
    have hnil:=aF5 (show bb.drop j=[] from List.map_eq_nil_iff.mp hxs.symm)
    have hh:=(hG.bud A c.pa).handled
    refine wpAny_Return_some (wpAny_IfExp (wpAny_isTrue_Compare1 (xC hG c.c hgl (hG.bval (fH,_) (.tail _ (.head _))) o.n hd (nO _) (aF3 hh ⟨ob,g,oc,od⟩ hnil fun h' tk c' hk hD hex=>?_))))
    have nD:¬ X s.heap.objs.size:=c.e.newX
    generalize s.heap.objs.size=D at hD nD ⊢
    have x1:Ext (fun c=>c=ai) s {s with heap:=h',toks:=tk}:=⟨fun c o e ne=>hk c o ne e,rfl,rfl⟩
    have e1:=(c.e.gone hx o.n).wr (W:=fun c=>c=ai) x1.keep (fun c e=>.inr (e▸rfl)) fun c e=>e▸hex
    have hD1:({s with heap:=h',toks:=tk}:Shared).heap.get? D=some (aS [] c'):=hD
    generalize ({s with heap:=h',toks:=tk}:Shared)=s₁ at x1 e1 hD1 ⊢
    refine wpAny_List (wpAny_items_nil ⟨Nat.zero_le _,?_⟩)
    have x2:=Ext.pushed NoX s₁ (aS [] 0)
    have l2:=BZ (C:=T.C) (X:=X) (s:=s₁) (xs:=[]) (its:=[]) e1.newX rfl
    have l1:aV T.C X ({s₁ with heap:=s₁.heap.push (aS [] 0)}:Shared).heap (.v (.list [])) (.ref D):=show LV _ _ _ _ _ from .mk nD (x2.keep _ _ hD1 id) rfl
    have l2:=l2.r
    generalize ({s₁ with heap:=s₁.heap.push (aS [] 0)}:Shared)=s₂ at x2 l1 l2 ⊢
    refine RB (T:=T) (fun A pa=>Nat.lt_of_le_of_lt (Nat.add_le_add_left (by decide) _) (hG.bud A pa).units) .Eq (.v (.list [])) (.v (.list [])) true A X s₂ _ _ c.pa (by decide) l1 l2 _ E fun v s₃ q3=>?_
    cases q3.e
    refine wpAny_truthy_bool ?_
    have x13:=x2.trans q3.x
    have c3:jG T G (cO it σ) A X (Or2 B (aT s.heap (.iter tg []) (.ref ai))) env s₃:=⟨c.pa,e1.keep x13.keep⟩
    exact TR c3 (fun zz=>.inl) ha hv _ E fun v s₄ q4=>k _ _ (q4.pre ((Step.wr x1 fun c e=>e▸o.w).trans (.nox x13)))
 |_=>exact no hq
end
section
variable {prog:Program}{w:World}{A:Around}{E:Value→Shared→Prop}{s:Shared}
theorem TS {it:Addr}{x iA step:Int}{Q:Value→Shared→Prop}(hit:IsRangeIter s.heap it x iA step)(hleft:0<iA)(hQ:∀h',IsRangeIter h' it (x+step) (iA-1) step→Heap.SameBut it s.heap h'→Q (.int x s.toks) {s with heap:=h',toks:=s.toks+1}):
  wpAny (model prog w) A (Builtin.SmallTypes.nextOf (.ref it)) Q E s:=by
 have hT:s.TypeIs (.ref it) "range_iterator" := ⟨_,hit,rfl⟩
 unfold Builtin.SmallTypes.nextOf
 refine wpAny_bind (wpAny_callSpecial?_slot (name:=Str.ofString "__next__") hT F.slot_range_iterator_next
  (call_meets F.slot_range_iterator_next hT F.entry_range_iterator_next (F.args_range_iterator_next_1 _) (AutoRange.range_iterator___next___range_iterator_1 it x iA step (Int.not_le.mpr hleft)) ⟨hit,?_⟩))
 exact wpAny_pure (hQ _ (Heap.get?_update_self _ (Heap.get?_update_self _ hit rfl) rfl) ((Heap.SameBut.update ..).trans (Heap.SameBut.update ..)))
theorem aFE {it:Addr}{x iA step:Int}{Q:Value→Shared→Prop}(hh:A.handled=none)(hit:IsRangeIter s.heap it x iA step)(hleft:iA≤0)
  (hE:∀h' e,Heap.ExtBut it s.heap h'→(∃o,h'.get? e=some o∧o.cls=.type "StopIteration")→E (.ref e) {s with heap:=h'}):wpAny (model prog w) A (Builtin.SmallTypes.nextOf (.ref it)) Q E s:=by
 have hT:s.TypeIs (.ref it) "range_iterator" := ⟨_,hit,rfl⟩
 unfold Builtin.SmallTypes.nextOf
 refine wpAny_bind (wpAny_callSpecial?_slot (name:=Str.ofString "__next__") hT F.slot_range_iterator_next
  (wpAny_call_entry F.slot_range_iterator_next hT F.entry_range_iterator_next ?_ (F.args_range_iterator_next_1 _)))
 show wpAny _ _ (field (.ref it) 0>>=_) _ _ s
 refine wpAny_bind (wpAny_field hit rfl (x:=rawInt x) rfl ?_)
 show wpAny _ _ (field (.ref it) 1>>=_) _ _ s
 refine wpAny_bind (wpAny_field hit rfl (x:=rawInt iA) rfl ?_)
 show wpAny _ _ (field (.ref it) 2>>=_) _ _ s
 refine wpAny_bind (wpAny_field hit rfl (x:=rawInt step) rfl ?_)
 show wpAny _ _ (if iA≤0 then _ else _) _ _ s
 rw [if_pos hleft]
 refine wpAny_bind (wpAny_rule ?_)
 refine wpAny_bind ?_
 show wpAny _ _ (newExc (.type "StopIteration") []>>=_) _ _ _
 refine wpAny_bind ?_
 simp only [newExc,newTuple]
 refine wpAny_bind (wpAny_newObj_type ?_ (by size_fits))
 refine wpAny_bind (m:=firstArgMember _ _) (wpAny_of_eq (a:=Value.none) (by first |rfl |(simp only [firstArgMember]; rfl)) ?_)
 refine wpAny_newObj_type ?_ (by size_fits)
 simp only [raiseNew]
 refine wpAny_bind (wpAny_handled ?_)
 first |rw [show A.in1.handled=none from hh] |rw [hh]
 refine wpAny_bind (wpAny_pure (wpAny_throw ?_))
 exact hE _ _ (((Heap.ExtBut.refl it s.heap).push _).push _) ⟨_,Heap.get?_push_size _ rfl,rfl⟩
noncomputable abbrev ZO (h:Heap)(n:Addr)(f0 f1:Value):Prop:=h.get? (n+5)=some {cls:=.type "zip",dict:=none,data:=.fields #[f0,f1,.bool false,.ref (n+3),.ref (n+4)],slots:=#[]}
structure ZS (n l1 l2:Addr)(a c:Int)(N:Nat)(xs ys:List Value)(k:Nat)(f0 f1:Value)(h:Heap):Prop where
 z:ZO h n f0 f1
 I:h.get? (n+3)=some (aW [.ref n,.ref (n+1),.ref (n+2)] 0)
 r:IsRangeIter h n (a+k*c) ((N:Int)-k) c
 i1:h.IsListIter (n+1) l1 k
 i2:h.IsListIter (n+2) l2 k
 g1:h.IsList l1 xs.toArray
 g2:h.IsList l2 ys.toArray
theorem bw {n b:Nat}(i:Nat)(h:i≤5)(e:b=n+i):n≤b∧b≤n+5:=by
 subst e
 exact ⟨Nat.le_add_right _ _,Nat.add_le_add_left h n⟩
theorem nk {n i j:Nat}(h:i≠j):n+i≠n+j:=fun e=>h (Nat.add_left_cancel e)
noncomputable abbrev KZ (n:Addr)(h h':Heap):Prop:=aG (fun b=>n≤b∧b≤n+5) h h'
variable {n l1 l2 T:Addr}{a c:Int}{N k:Nat}{xs ys:List Value}{x y:Value}{f:Bool}
theorem TT {f0:Value}{Q:Bool→Shared→Prop}(gz:ZO s.heap n f0 (.bool f))(h:∀h₁,ZO h₁ n f0 (.bool true)→Heap.SameBut (n+5) s.heap h₁→Q false {s with heap:=h₁}):
  wpAny (model prog w) A (if (Value.bool f != Value.bool true)=true then setField (.ref (n+5)) 1 (.bool true)>>=fun zz=>pure false else pure false) Q E s:=by
 cases f with
 |true=>
  rw [if_neg (show ¬ ((Value.bool true != Value.bool true)=true) from Bool.false_ne_true)]
  exact wpAny_pure (h s.heap gz (Heap.SameBut.refl _ _))
 |false=>
  rw [if_pos (show (Value.bool false != Value.bool true)=true from rfl)]
  exact wpAny_bind (wpAny_setField_rec gz (show 1<5 by decide) fun h₁ gz₁ hs₁=>wpAny_pure (h h₁ gz₁ hs₁))
theorem aFF (h1:l1<n)(h2:l2<n)(st:ZS n l1 l2 a c N xs ys k (rawInt T) (.bool f) s.heap)(hT:∃o,s.heap.get? T=some o)(hx:xs[k]?=some x)(hy:ys[k]?=some y)(hk:k<N){Q:Option Value→Shared→Prop}
  (hQ:∀u h' tk,ZS n l1 l2 a c N xs ys (k+1) (rawInt T) (.bool true) h'→h'.get? s.heap.objs.size=some (aW [.int (a+k*c) u,x,y] 0)→KZ n s.heap h'→Q (some (.ref s.heap.objs.size)) {s with heap:=h',toks:=tk}) :
  wpAny (model prog w) A (pyNext (.ref (n+5))) Q E s:=by
 obtain ⟨hp,g,dr,tk,os⟩:=s
 have hZ:Shared.TypeIs ⟨hp,g,dr,tk,os⟩ (.ref (n+5)) "zip" := ⟨_,st.z,rfl⟩
 unfold pyNext
 refine wpAny_bind (wpAny_attempt (wpAny_callSpecial?_slot (name:=Str.ofString "__next__") hZ F.slot_zip_next
  (wpAny_call_entry F.slot_zip_next hZ F.entry_zip_next ?_ (F.args_zip_next_1 _))))
 show wpAny _ _ (field (.ref (n+5)) 2>>=_) _ _ _
 refine wpAny_bind (wpAny_field st.z rfl (x:=.bool false) rfl ?_)
 show wpAny _ _ (field (.ref (n+5)) 3>>=_) _ _ _
 refine wpAny_bind (wpAny_field st.z rfl (x:=.ref (n+3)) rfl ?_)
 refine wpAny_bind (wpAny_seqItems st.I rfl ?_)
 show wpAny _ _ (Builtin.SmallTypes.ownedTupleIsFree (.ref (n+5))>>=_) _ _ _
 refine wpAny_bind ?_
 unfold Builtin.SmallTypes.ownedTupleIsFree
 refine wpAny_bind (wpAny_field st.z rfl (x:=rawInt T) rfl ?_)
 show wpAny _ _ (loadIfAlive ((T:Int).toNat)>>=_) _ _ _
 rw [Int.toNat_natCast]
 obtain ⟨oT,gT⟩:=hT
 refine wpAny_bind (kdx_alive gT ?_)
 simp only [Option.isNone_some,Bool.false_eq_true,if_false]
 refine wpAny_bind (wpAny_field st.z rfl (x:=.bool f) rfl ?_)
 refine TT st.z fun h₁ z₁ s₁=>?_
 simp only [Bool.false_eq_true,if_false]
 have e:∀{b:Addr} {o:Obj} {h h':Heap} {i j:Nat},Heap.SameBut (n+i) h h'→j≠i→h.get? (n+j)=some o→h'.get? (n+j)=some o:=fun s ne g=>(s.2 _ (nk ne)).trans g
 refine wpAny_bind ?_
 have nS:∀{i:Nat},0<i→n≠n+i:=fun h=>Nat.ne_of_lt (Nat.lt_add_of_pos_right h)
 have lS:∀{l:Addr} (i:Nat),l<n→l≠n+i:=fun i h=>Nat.ne_of_lt (Nat.lt_of_lt_of_le h (Nat.le_add_right n i))
 rw [show (forIn #[Value.ref n,Value.ref (n+1),Value.ref (n+2)]:_→_→Sem _)=forIn [Value.ref n,Value.ref (n+1),Value.ref (n+2)] from rfl]
 rw [List.forIn_cons]
 refine wpAny_bind (wpAny_bind (wpAny_holding ?_))
 show wpAny _ _ (Builtin.SmallTypes.nextOf (.ref n)>>=_) _ _ _
 refine wpAny_bind (TS ((s₁.2 _ (nS (by decide))).trans st.r) (by omega) fun h₂ r₂ s₂=>wpAny_pure (wpAny_pure ?_))
 dsimp only
 rw [List.forIn_cons]
 refine wpAny_bind (wpAny_bind (wpAny_holding ?_))
 show wpAny _ _ (Builtin.SmallTypes.nextOf (.ref (n+1))>>=_) _ _ _
 have up2:∀b o,b≠n+5→b≠n→hp.get? b=some o→h₂.get? b=some o:=fun b o b5 b0 g=>(s₂.2 b b0).trans ((s₁.2 b b5).trans g)
 refine wpAny_bind (wpAny_nextOf_list_item (items:=xs.toArray) (st.i1.at fun o g=>up2 _ o (nk (by decide)) (nS (by decide)).symm g) (st.g1.at fun o g=>up2 _ o (lS 5 h1) (Nat.ne_of_lt h1) g) ((List.getElem?_toArray).trans hx) fun h₃ i₃ s₃=>wpAny_pure (wpAny_pure ?_))
 dsimp only
 rw [List.forIn_cons]
 refine wpAny_bind (wpAny_bind (wpAny_holding ?_))
 show wpAny _ _ (Builtin.SmallTypes.nextOf (.ref (n+2))>>=_) _ _ _
 have up3:∀b o,b≠n+5→b≠n→b≠n+1→hp.get? b=some o→h₃.get? b=some o:=fun b o b5 b0 b1 g=>(s₃.2 b b1).trans (up2 b o b5 b0 g)
 refine wpAny_bind (wpAny_nextOf_list_item (items:=ys.toArray) (st.i2.at fun o g=>up3 _ o (nk (by decide)) (nS (by decide)).symm (nk (by decide)) g) (st.g2.at fun o g=>up3 _ o (lS 5 h2) (Nat.ne_of_lt h2) (lS 1 h2) g) ((List.getElem?_toArray).trans hy) fun h₄ i₄ s₄=>wpAny_pure (wpAny_pure ?_))
 dsimp only
 rw [List.forIn_nil]
 refine wpAny_pure ?_
 dsimp only
 refine wpAny_bind (wpAny_newTuple (wpAny_pure ⟨_,rfl,wpAny_pure ?_⟩) (by show 3≤_; decide))
 have up4:∀b o,b≠n+5→b≠n→b≠n+1→b≠n+2→hp.get? b=some o→h₄.get? b=some o:=fun b o b5 b0 b1 b2 g=>(s₄.2 b b2).trans (up3 b o b5 b0 b1 g)
 have sz:h₄.objs.size=hp.objs.size:=by rw [s₄.1,s₃.1,s₂.1,s₁.1]
 rw [sz]
 have up5:∀b o,b≠n+5→b≠n→b≠n+1→b≠n+2→hp.get? b=some o→(h₄.push (aW [.int (a+k*c) tk,x,y] 0)).get? b=some o:=fun b o b5 b0 b1 b2 g=>Heap.get?_push_of_some _ (up4 b o b5 b0 b1 b2 g)
 refine hQ tk _ _ ⟨?_,up5 _ _ (nk (by decide)) (nS (by decide)).symm (nk (by decide)) (nk (by decide)) st.I,?_,(i₃.at fun o g=>(s₄.2 _ (nk (by decide))).trans g).at fun o g=>Heap.get?_push_of_some _ g,i₄.at fun o g=>Heap.get?_push_of_some _ g,st.g1.at fun o g=>up5 _ o (lS 5 h1) (Nat.ne_of_lt h1) (lS 1 h1) (lS 2 h1) g,st.g2.at fun o g=>up5 _ o (lS 5 h2) (Nat.ne_of_lt h2) (lS 1 h2) (lS 2 h2) g⟩ ?_ fun b o g nb=>up5 b o (fun e=>nb (bw 5 (by decide) e)) (fun e=>nb (bw 0 (by decide) e)) (fun e=>nb (bw 1 (by decide) e)) (fun e=>nb (bw 2 (by decide) e)) g
 ·exact Heap.get?_push_of_some _ ((s₄.2 _ (nk (by decide))).trans ((s₃.2 _ (nk (by decide))).trans ((s₂.2 _ (nS (by decide)).symm).trans z₁)))
 ·have e1:a+((k+1:Nat):Int)*c=a+(k:Int)*c+c:=by rw [Int.natCast_succ,Int.add_mul,Int.one_mul,Int.add_assoc]
  have e2:(N:Int)-((k+1:Nat):Int)=(N:Int)-(k:Int)-1:=by rw [Int.natCast_succ,Int.sub_sub]
  rw [e1,e2]
  exact Heap.get?_push_of_some _ ((s₄.2 _ (nS (by decide))).trans ((s₃.2 _ (nS (by decide))).trans r₂))
 ·rw [←sz]; exact Heap.get?_push_size _ rfl
theorem aFG (h1:l1<n)(h2:l2<n){u0 u1 u2:Value}(st:ZS n l1 l2 a c N xs ys k .none (.bool f) s.heap)(gO:s.heap.get? (n+4)=some (aW [u0,u1,u2] 0))(hx:xs[k]?=some x)(hy:ys[k]?=some y)(hk:k<N){Q:Option Value→Shared→Prop}
  (hQ:∀u h' tk,ZS n l1 l2 a c N xs ys (k+1) (rawInt s.heap.objs.size) (.bool false) h'→h'.get? s.heap.objs.size=some (aW [.int (a+k*c) u,x,y] 0)→KZ n s.heap h'→Q (some (.ref s.heap.objs.size)) {s with heap:=h',toks:=tk}) :
  wpAny (model prog w) A (pyNext (.ref (n+5))) Q E s:=by
 obtain ⟨hp,g,dr,tk,os⟩:=s
 have hZ:Shared.TypeIs ⟨hp,g,dr,tk,os⟩ (.ref (n+5)) "zip" := ⟨_,st.z,rfl⟩
 have nS:∀{i:Nat},0<i→n≠n+i:=fun h=>Nat.ne_of_lt (Nat.lt_add_of_pos_right h)
 have lS:∀{l:Addr} (i:Nat),l<n→l≠n+i:=fun i h=>Nat.ne_of_lt (Nat.lt_of_lt_of_le h (Nat.le_add_right n i))
 unfold pyNext
 refine wpAny_bind (wpAny_attempt (wpAny_callSpecial?_slot (name:=Str.ofString "__next__") hZ F.slot_zip_next
  (wpAny_call_entry F.slot_zip_next hZ F.entry_zip_next ?_ (F.args_zip_next_1 _))))
 show wpAny _ _ (field (.ref (n+5)) 2>>=_) _ _ _
 refine wpAny_bind (wpAny_field st.z rfl (x:=.bool false) rfl ?_)
 show wpAny _ _ (field (.ref (n+5)) 3>>=_) _ _ _
 refine wpAny_bind (wpAny_field st.z rfl (x:=.ref (n+3)) rfl ?_)
 refine wpAny_bind (wpAny_seqItems st.I rfl ?_)
 show wpAny _ _ (Builtin.SmallTypes.ownedTupleIsFree (.ref (n+5))>>=_) _ _ _
 refine wpAny_bind ?_
 unfold Builtin.SmallTypes.ownedTupleIsFree
 refine wpAny_bind (wpAny_field st.z rfl (x:=.none) rfl (wpAny_pure ?_))
 show wpAny _ _ (ite (true=true) _ _) _ _ _
 rw [if_pos rfl]
 refine wpAny_bind (wpAny_rule ?_)
 refine wpAny_bind (wpAny_field st.z rfl (x:=.ref (n+4)) rfl ?_)
 refine wpAny_bind (wpAny_setField_rec st.z (show 0<5 by decide) fun h₁ z₁ s₁=>?_)
 refine wpAny_bind ?_
 rw [show (#[Value.ref n,Value.ref (n+1),Value.ref (n+2)]:Array Value).toList.zipIdx=[(Value.ref n,0),(Value.ref (n+1),1),(Value.ref (n+2),2)] from rfl]
 rw [List.forIn_cons]
 refine wpAny_bind (wpAny_bind (wpAny_onRaise ?_))
 show wpAny _ _ (Builtin.SmallTypes.nextOf (.ref n)>>=_) _ _ _
 refine wpAny_bind (TS ((s₁.2 _ (nS (by decide))).trans st.r) (by omega) fun h₂ r₂ s₂=>wpAny_pure ?_)
 have o2:h₂.get? (n+4)=some (aW [u0,u1,u2] 0):=(s₂.2 _ (nS (by decide)).symm).trans ((s₁.2 _ (nk (by decide))).trans gO)
 refine wpAny_bind (wpAny_seqItems o2 rfl ?_)
 refine wpAny_bind (wpAny_updateSeq o2 rfl ?_ (by show 3≤_; decide) (by show 3≤_; decide))
 refine wpAny_bind (wpAny_letGo (wpAny_pure ?_))
 have s₃:=Heap.SameBut.update h₂ (n+4) (Obj.mapSeq (·.setIfInBounds 0 (Value.int (a+k*c) tk)))
 have o3:(h₂.update (n+4) (Obj.mapSeq (·.setIfInBounds 0 (Value.int (a+k*c) tk)))).get? (n+4)=some (aW [.int (a+k*c) tk,u1,u2] 0):=(Heap.get?_update_self _ o2 rfl).trans rfl
 dsimp only
 generalize h₂.update (n+4) (Obj.mapSeq (·.setIfInBounds 0 (Value.int (a+k*c) tk)))=h₃ at s₃ o3 ⊢
 have up3:∀b o,b≠n+5→b≠n→b≠n+4→hp.get? b=some o→h₃.get? b=some o:=fun b o b5 b0 b4 g=>(s₃.2 b b4).trans ((s₂.2 b b0).trans ((s₁.2 b b5).trans g))
 rw [List.forIn_cons]
 refine wpAny_bind (wpAny_bind (wpAny_onRaise ?_))
 show wpAny _ _ (Builtin.SmallTypes.nextOf (.ref (n+1))>>=_) _ _ _
 refine wpAny_bind (wpAny_nextOf_list_item (items:=xs.toArray) (st.i1.at fun o g=>up3 _ o (nk (by decide)) (nS (by decide)).symm (nk (by decide)) g) (st.g1.at fun o g=>up3 _ o (lS 5 h1) (Nat.ne_of_lt h1) (lS 4 h1) g) ((List.getElem?_toArray).trans hx) fun h₄ i₄ s₄=>wpAny_pure ?_)
 have o4:h₄.get? (n+4)=some (aW [.int (a+k*c) tk,u1,u2] 0):=(s₄.2 _ (nk (by decide))).trans o3
 refine wpAny_bind (wpAny_seqItems o4 rfl ?_)
 refine wpAny_bind (wpAny_updateSeq o4 rfl ?_ (by show 3≤_; decide) (by show 3≤_; decide))
 refine wpAny_bind (wpAny_letGo (wpAny_pure ?_))
 have s₅:=Heap.SameBut.update h₄ (n+4) (Obj.mapSeq (·.setIfInBounds 1 x))
 have o5:(h₄.update (n+4) (Obj.mapSeq (·.setIfInBounds 1 x))).get? (n+4)=some (aW [.int (a+k*c) tk,x,u2] 0):=(Heap.get?_update_self _ o4 rfl).trans rfl
 dsimp only
 generalize h₄.update (n+4) (Obj.mapSeq (·.setIfInBounds 1 x))=h₅ at s₅ o5 ⊢
 have up5:∀b o,b≠n+5→b≠n→b≠n+4→b≠n+1→hp.get? b=some o→h₅.get? b=some o:=fun b o b5 b0 b4 b1 g=>(s₅.2 b b4).trans ((s₄.2 b b1).trans (up3 b o b5 b0 b4 g))
 rw [List.forIn_cons]
 refine wpAny_bind (wpAny_bind (wpAny_onRaise ?_))
 show wpAny _ _ (Builtin.SmallTypes.nextOf (.ref (n+2))>>=_) _ _ _
 refine wpAny_bind (wpAny_nextOf_list_item (items:=ys.toArray) (st.i2.at fun o g=>up5 _ o (nk (by decide)) (nS (by decide)).symm (nk (by decide)) (nk (by decide)) g) (st.g2.at fun o g=>up5 _ o (lS 5 h2) (Nat.ne_of_lt h2) (lS 4 h2) (lS 1 h2) g) ((List.getElem?_toArray).trans hy) fun h₆ i₆ s₆=>wpAny_pure ?_)
 have o6:h₆.get? (n+4)=some (aW [.int (a+k*c) tk,x,u2] 0):=(s₆.2 _ (nk (by decide))).trans o5
 refine wpAny_bind (wpAny_seqItems o6 rfl ?_)
 refine wpAny_bind (wpAny_updateSeq o6 rfl ?_ (by show 3≤_; decide) (by show 3≤_; decide))
 refine wpAny_bind (wpAny_letGo (wpAny_pure ?_))
 have s₇:=Heap.SameBut.update h₆ (n+4) (Obj.mapSeq (·.setIfInBounds 2 y))
 have o7:(h₆.update (n+4) (Obj.mapSeq (·.setIfInBounds 2 y))).get? (n+4)=some (aW [.int (a+k*c) tk,x,y] 0):=(Heap.get?_update_self _ o6 rfl).trans rfl
 dsimp only
 generalize h₆.update (n+4) (Obj.mapSeq (·.setIfInBounds 2 y))=h₇ at s₇ o7 ⊢
 rw [List.forIn_nil]
 refine wpAny_pure ?_
 dsimp only
 refine wpAny_bind (wpAny_seqItems o7 rfl ?_)
 refine wpAny_bind (wpAny_newTuple ?_ (by show 3≤_; decide))
 show wpAny _ _ (Builtin.SmallTypes.ownedTupleHandOut (.ref (n+5)) (.ref h₇.objs.size)>>=_) _ _ _
 refine wpAny_bind ?_
 unfold Builtin.SmallTypes.ownedTupleHandOut
 have z₇:ZO h₇ n .ellipsis (.bool f):=(s₇.2 _ (nk (by decide))).trans ((s₆.2 _ (nk (by decide))).trans ((s₅.2 _ (nk (by decide))).trans ((s₄.2 _ (nk (by decide))).trans ((s₃.2 _ (nk (by decide))).trans ((s₂.2 _ (nS (by decide)).symm).trans z₁)))))
 refine wpAny_bind (wpAny_setField_rec (Heap.get?_push_of_some _ z₇) (show 0<5 by decide) fun h₈ z₈ s₈=>?_)
 refine wpAny_setField_rec z₈ (show 1<5 by decide) fun h₉ z₉ s₉=>?_
 have sz:h₇.objs.size=hp.objs.size:=by rw [s₇.1,s₆.1,s₅.1,s₄.1,s₃.1,s₂.1,s₁.1]
 have e9:∀b o,b≠n+5→h₇.get? b=some o→h₉.get? b=some o:=fun b o b5 g=>(s₉.2 b b5).trans ((s₈.2 b b5).trans (Heap.get?_push_of_some _ g))
 have T5:h₇.objs.size≠n+5:=Nat.ne_of_gt (Heap.lt_size z₇)
 have up7:∀b o,b≠n+5→b≠n→b≠n+4→b≠n+1→b≠n+2→hp.get? b=some o→h₉.get? b=some o:=fun b o b5 b0 b4 b1 b2 g=>e9 b o b5 ((s₇.2 b b4).trans ((s₆.2 b b2).trans (up5 b o b5 b0 b4 b1 g)))
 refine wpAny_pure ⟨_,rfl,wpAny_pure ?_⟩
 rw [sz]
 refine hQ tk _ _ ⟨sz▸z₉,up7 _ _ (nk (by decide)) (nS (by decide)).symm (nk (by decide)) (nk (by decide)) (nk (by decide)) st.I,?_,i₄.at fun o g=>e9 _ _ (nk (by decide)) ((s₇.2 _ (nk (by decide))).trans ((s₆.2 _ (nk (by decide))).trans ((s₅.2 _ (nk (by decide))).trans g))),i₆.at fun o g=>e9 _ _ (nk (by decide)) ((s₇.2 _ (nk (by decide))).trans g),
  st.g1.at fun o g=>up7 _ o (lS 5 h1) (Nat.ne_of_lt h1) (lS 4 h1) (lS 1 h1) (lS 2 h1) g,st.g2.at fun o g=>up7 _ o (lS 5 h2) (Nat.ne_of_lt h2) (lS 4 h2) (lS 1 h2) (lS 2 h2) g⟩ ?_ fun b o g nb=>up7 b o (fun e=>nb (bw 5 (by decide) e)) (fun e=>nb (bw 0 (by decide) e)) (fun e=>nb (bw 4 (by decide) e)) (fun e=>nb (bw 1 (by decide) e)) (fun e=>nb (bw 2 (by decide) e)) g
 ·have e1:a+((k+1:Nat):Int)*c=a+(k:Int)*c+c:=by rw [Int.natCast_succ,Int.add_mul,Int.one_mul,Int.add_assoc]
  have e2:(N:Int)-((k+1:Nat):Int)=(N:Int)-(k:Int)-1:=by rw [Int.natCast_succ,Int.sub_sub]
  rw [e1,e2]
  exact e9 _ _ (nS (by decide)) ((s₇.2 _ (nS (by decide))).trans ((s₆.2 _ (nS (by decide))).trans ((s₅.2 _ (nS (by decide))).trans ((s₄.2 _ (nS (by decide))).trans ((s₃.2 _ (nS (by decide))).trans r₂)))))
 ·rw [←sz]
  exact (s₉.2 _ T5).trans ((s₈.2 _ T5).trans (Heap.get?_push_size _ rfl))
theorem aFH (hh:A.handled=none)(st:ZS n l1 l2 a c N xs ys N (rawInt T) (.bool f) s.heap)(hT:∃o,s.heap.get? T=some o){Q:Option Value→Shared→Prop}(hQ:∀h',KZ n s.heap h'→Q none {s with heap:=h'}):
  wpAny (model prog w) A (pyNext (.ref (n+5))) Q E s:=by
 obtain ⟨hp,g,dr,tk,os⟩:=s
 have hZ:Shared.TypeIs ⟨hp,g,dr,tk,os⟩ (.ref (n+5)) "zip" := ⟨_,st.z,rfl⟩
 have nS:∀{i:Nat},0<i→n≠n+i:=fun h=>Nat.ne_of_lt (Nat.lt_add_of_pos_right h)
 unfold pyNext
 refine wpAny_bind (wpAny_attempt (wpAny_callSpecial?_slot (name:=Str.ofString "__next__") hZ F.slot_zip_next
  (wpAny_call_entry F.slot_zip_next hZ F.entry_zip_next ?_ (F.args_zip_next_1 _))))
 show wpAny _ _ (field (.ref (n+5)) 2>>=_) _ _ _
 refine wpAny_bind (wpAny_field st.z rfl (x:=.bool false) rfl ?_)
 show wpAny _ _ (field (.ref (n+5)) 3>>=_) _ _ _
 refine wpAny_bind (wpAny_field st.z rfl (x:=.ref (n+3)) rfl ?_)
 refine wpAny_bind (wpAny_seqItems st.I rfl ?_)
 show wpAny _ _ (Builtin.SmallTypes.ownedTupleIsFree (.ref (n+5))>>=_) _ _ _
 refine wpAny_bind ?_
 unfold Builtin.SmallTypes.ownedTupleIsFree
 refine wpAny_bind (wpAny_field st.z rfl (x:=rawInt T) rfl ?_)
 show wpAny _ _ (loadIfAlive ((T:Int).toNat)>>=_) _ _ _
 rw [Int.toNat_natCast]
 obtain ⟨oT,gT⟩:=hT
 refine wpAny_bind (kdx_alive gT ?_)
 simp only [Option.isNone_some,Bool.false_eq_true,if_false]
 refine wpAny_bind (wpAny_field st.z rfl (x:=.bool f) rfl ?_)
 refine TT st.z fun h₁ z₁ s₁=>?_
 simp only [Bool.false_eq_true,if_false]
 refine wpAny_bind ?_
 rw [show (forIn #[Value.ref n,Value.ref (n+1),Value.ref (n+2)]:_→_→Sem _)=forIn [Value.ref n,Value.ref (n+1),Value.ref (n+2)] from rfl]
 rw [List.forIn_cons]
 refine wpAny_bind (wpAny_bind (wpAny_holding ?_))
 show wpAny _ _ (Builtin.SmallTypes.nextOf (.ref n)>>=_) _ _ _
 refine wpAny_bind (aFE (A:=A.in1) hh ((s₁.2 _ (nS (by decide))).trans st.r) (Int.le_of_eq (Int.sub_self _)) fun h₂ e s₂ he=>?_)
 obtain ⟨o,ho,hc⟩:=he
 exact wpAny_bind (wpAny_isInstance (T := "StopIteration") (b:=true) ⟨o,ho,hc⟩ isSubtype_stop (wpAny_pure (hQ _ fun b o g nb=>s₂ b o (fun e=>nb (bw 0 (by decide) e)) ((s₁.2 b fun e=>nb (bw 5 (by decide) e)).trans g))))
structure aFI (n:Addr)(a c:Int)(xs ys:List Value)(h:Heap)(j:Nat)(v:Value):Prop where
 t:∃t u x y,v=.ref t∧n+6<t∧xs[j]?=some x∧ys[j]?=some y∧h.get? t=some (aW [.int (a+j*c) u,x,y] 0)
structure gP (n:Addr)(a c:Int)(xs ys:List Value)(h:Heap)(acc:List Value)(k:Nat):Prop where
 l:acc.length=k
 t:∀j v,acc[j]?=some v→aFI n a c xs ys h j v
theorem gP.keep {h h':Heap}{acc:List Value}(q:gP n a c xs ys h acc k)(kp:aG (fun b=>b≤n+6) h h'):gP n a c xs ys h' acc k:=
 ⟨q.l,fun j v e=>by
  obtain ⟨t,u,x,y,e1,e2,e3,e4,e5⟩:=(q.t j v e).t
  exact ⟨t,u,x,y,e1,e2,e3,e4,kp _ _ e5 (Nat.not_le.mpr e2)⟩⟩
theorem gP.push {h:Heap}{acc:List Value}{t u:Nat}(q:gP n a c xs ys h acc k)(ht:n+6<t)(hx:xs[k]?=some x)(hy:ys[k]?=some y)(g:h.get? t=some (aW [.int (a+k*c) u,x,y] 0)):gP n a c xs ys h (acc++[.ref t]) (k+1):=
 ⟨by rw [List.length_append,q.l]; rfl,fun j v e=>by
  by_cases hj:j<acc.length
  ·rw [List.getElem?_append_left hj] at e; exact q.t j v e
  ·have hj:=Nat.le_of_not_lt hj
   rw [List.getElem?_append_right hj,List.getElem?_singleton] at e
   by_cases h0:j-acc.length=0
   ·rw [if_pos h0] at e
    cases e
    have:j=k:=by rw [←q.l]; exact Nat.le_antisymm (Nat.sub_eq_zero_iff_le.mp h0) hj
    subst this
    exact ⟨t,u,x,y,rfl,ht,hx,hy,g⟩
   ·rw [if_neg h0] at e; cases e⟩
theorem aFJ {R:Result→Shared→Prop}(hh:A.handled=none)(h1:l1<n)(h2:l2<n)(hN:N≤16777216)(hX:N≤xs.length)(hY:N≤ys.length)(res:Value):∀(m k:Nat) (s:Shared) (acc:List Value) (cS:Nat) (f:Bool),N-k=m→k≤N→ZS n l1 l2 a c N xs ys k (rawInt T) (.bool f) s.heap→n+6<T→(∃o,s.heap.get? T=some o)→s.heap.get? (n+6)=some (aS acc cS)→gP n a c xs ys s.heap acc k →
  (∀h' tk acc' c',(∀b o,b<n→s.heap.get? b=some o→h'.get? b=some o)→h'.get? (n+6)=some (aS acc' c')→gP n a c xs ys h' acc' N→R (.ok (.ret res)) {s with heap:=h',toks:=tk}) →
  codeAny (model prog w) A (.builtin "list.extend.loop" ⟨[.ref (n+6),.ref (n+5),res],[]⟩) R s:=by
 intro m
 induction m with
 |zero=>
  intro k s acc cS f hm hk st hT gT gS q hR
  have e:k=N:=Nat.le_antisymm hk (Nat.le_of_sub_eq_zero hm)
  subst e
  refine codeAny_builtin F.entry_extend_loop ?_
  rw [Around.under_plainId F.plain_extend_loop _]
  show wpAny _ A.in1 (pyNext (.ref (n+5))>>=_) _ _ s
  refine wpAny_bind (aFH (A:=A.in1) hh st gT fun h' kz=>wpAny_pure (hR h' s.toks acc cS (fun b o hb g=>kz b o g fun z=>Nat.lt_irrefl _ (Nat.lt_of_lt_of_le hb z.1)) (kz _ _ gS fun z=>Nat.not_succ_le_self _ z.2) (q.keep (kz.mono fun b z=>Nat.le_succ_of_le z.2))))
 |succ m ih=>
  intro k s acc cS f hm hk st hT gT gS q hR
  have hlt:k<N:=Nat.lt_of_sub_eq_succ hm
  obtain ⟨x,hx⟩:∃x,xs[k]?=some x:=⟨_,List.getElem?_eq_getElem (Nat.lt_of_lt_of_le hlt hX)⟩
  obtain ⟨y,hy⟩:∃y,ys[k]?=some y:=⟨_,List.getElem?_eq_getElem (Nat.lt_of_lt_of_le hlt hY)⟩
  refine codeAny_builtin F.entry_extend_loop ?_
  rw [Around.under_plainId F.plain_extend_loop _]
  show wpAny _ A.in1 (pyNext (.ref (n+5))>>=_) _ _ s
  refine wpAny_bind (aFF (A:=A.in1) h1 h2 st gT hx hy hlt fun u h' tk st' gt kz=>?_)
  have g6:=kz _ _ gS fun z=>Nat.not_succ_le_self _ z.2
  have big:n+6<s.heap.objs.size:=Heap.lt_size gS
  generalize s.heap.objs.size=t at gt big ⊢
  show wpAny _ A.in1 (updateSeq (n+6) (·.push (.ref t))>>=_) _ _ _
  have kS:aG (fun b=>b=n+6) h' (h'.update (n+6) (Obj.mapSeq (·.push (Value.ref t)))):=fun b o g ne=>(Heap.get?_update_other _ _ (Ne.symm ne)).trans g
  have gS':=(Heap.get?_update_self (Obj.mapSeq (·.push (Value.ref t))) g6 rfl)
  have al:acc.length+1≤16777216:=by rw [q.l]; exact Nat.le_trans hlt hN
  refine wpAny_bind (wpAny_updateSeq g6 rfl (wpAny_pure ⟨plainId_quiet F.plain_extend_loop _,?_⟩) (by show acc.length≤_; exact Nat.le_trans (Nat.le_of_succ_le al) (by decide)) (by show (acc.toArray.push (Value.ref t)).size≤_; rw [Array.size_push]; exact Nat.le_trans al (by decide)))
  generalize h'.update (n+6) (Obj.mapSeq (·.push (Value.ref t)))=h'' at kS gS'
  have up:∀b o,b≠n+6→h'.get? b=some o→h''.get? b=some o:=fun b o ne g=>kS b o g ne
  have lS:∀{l:Addr},l<n→l≠n+6:=fun h=>Nat.ne_of_lt (Nat.lt_of_lt_of_le h (Nat.le_add_right n 6))
  have gS2:h''.get? (n+6)=some (aS (acc++[.ref t]) (cS+1)):=by
   rw [gS']
   show some ({cls:=.type "list",data:=.seq (acc.toArray.push (Value.ref t)) (if ((acc.toArray.push (Value.ref t)).size==acc.toArray.size)=true then cS else cS+1)}:Obj)=_
   rw [Array.size_push,List.push_toArray,if_neg (by simp)]
  have kk:aG (fun b=>b≤n+6) s.heap h'':=fun b o g nb=>up b o (fun e=>nb (Nat.le_of_eq e)) (kz b o g fun z=>nb (Nat.le_succ_of_le z.2))
  refine ih (k+1) _ (acc++[.ref t]) _ true (by rw [Nat.sub_succ,hm]; rfl) hlt ⟨up _ _ (nk (by decide)) st'.z,up _ _ (nk (by decide)) st'.I,up _ _ (Nat.ne_of_lt (Nat.lt_add_of_pos_right (by decide))) st'.r,st'.i1.at fun o g=>up _ _ (nk (by decide)) g,st'.i2.at fun o g=>up _ _ (nk (by decide)) g,st'.g1.at fun o g=>up _ _ (lS h1) g,st'.g2.at fun o g=>up _ _ (lS h2) g⟩ hT
   (gT.elim fun o g=>⟨o,kk _ _ g (Nat.not_le.mpr hT)⟩) gS2 ((q.keep kk).push big hx hy (up _ _ (Nat.ne_of_gt big) gt)) fun h₃ tk₃ acc' c' k₃ g₃ q₃=>hR h₃ tk₃ acc' c' (fun b o hb g=>k₃ b o hb (up b o (lS hb) (kz b o g fun z=>Nat.lt_irrefl _ (Nat.lt_of_lt_of_le hb z.1)))) g₃ q₃
theorem aFK:typeLookup (.type "zip") "__len__" = pure none:=by rw [typeLookup_type,builtinLookup_eq_fast]; kernel_rfl
theorem aFL:typeLookup (.type "zip") "__length_hint__" = pure none:=by rw [typeLookup_type,builtinLookup_eq_fast]; kernel_rfl
theorem aFM {z:Addr}{Q:Bool→Shared→Prop}(ht:s.TypeIs (.ref z) "zip")(h:Q true s):wpAny (model prog w) A (Builtin.List.listLengthHint (.ref z)) Q E s:=by
 unfold Builtin.List.listLengthHint
 refine wpAny_bind (wpAny_specialOf ht aFK ?_)
 show wpAny _ A (specialOf (Value.ref z) (Str.ofString "__length_hint__")>>=_) _ _ _
 refine wpAny_bind (wpAny_specialOf ht aFL ?_)
 exact wpAny_pure h
theorem aFN {R:Result→Shared→Prop}(hh:A.handled=none)(h1:l1<n)(h2:l2<n)(h0:0<N)(hN:N≤16777216)(hX:N≤xs.length)(hY:N≤ys.length)(res:Value){u0 u1 u2:Value}{cS:Nat}(st:ZS n l1 l2 a c N xs ys 0 .none (.bool f) s.heap)(gO:s.heap.get? (n+4)=some (aW [u0,u1,u2] 0))(gS:s.heap.get? (n+6)=some (aS [] cS))
  (hR:∀h' tk acc' c',(∀b o,b<n→s.heap.get? b=some o→h'.get? b=some o)→h'.get? (n+6)=some (aS acc' c')→gP n a c xs ys h' acc' N→R (.ok (.ret res)) {s with heap:=h',toks:=tk}) :
  codeAny (model prog w) A (.builtin "list.extend.loop" ⟨[.ref (n+6),.ref (n+5),res],[]⟩) R s:=by
 obtain ⟨x,hx⟩:∃x,xs[0]?=some x:=⟨_,List.getElem?_eq_getElem (Nat.lt_of_lt_of_le h0 hX)⟩
 obtain ⟨y,hy⟩:∃y,ys[0]?=some y:=⟨_,List.getElem?_eq_getElem (Nat.lt_of_lt_of_le h0 hY)⟩
 refine codeAny_builtin F.entry_extend_loop ?_
 rw [Around.under_plainId F.plain_extend_loop _]
 show wpAny _ A.in1 (pyNext (.ref (n+5))>>=_) _ _ s
 refine wpAny_bind (aFG (A:=A.in1) h1 h2 st gO hx hy h0 fun u h' tk st' gt kz=>?_)
 have g6:=kz _ _ gS fun z=>Nat.not_succ_le_self _ z.2
 have big:n+6<s.heap.objs.size:=Heap.lt_size gS
 generalize s.heap.objs.size=t at st' gt big ⊢
 show wpAny _ A.in1 (updateSeq (n+6) (·.push (.ref t))>>=_) _ _ _
 have kS:aG (fun b=>b=n+6) h' (h'.update (n+6) (Obj.mapSeq (·.push (Value.ref t)))):=fun b o g ne=>(Heap.get?_update_other _ _ (Ne.symm ne)).trans g
 have gS':=(Heap.get?_update_self (Obj.mapSeq (·.push (Value.ref t))) g6 rfl)
 refine wpAny_bind (wpAny_updateSeq g6 rfl (wpAny_pure ⟨plainId_quiet F.plain_extend_loop _,?_⟩) (by show 0≤_; exact Nat.zero_le _) (by show 1≤_; decide))
 generalize h'.update (n+6) (Obj.mapSeq (·.push (Value.ref t)))=h'' at kS gS'
 have up:∀b o,b≠n+6→h'.get? b=some o→h''.get? b=some o:=fun b o ne g=>kS b o g ne
 have lS:∀{l:Addr},l<n→l≠n+6:=fun h=>Nat.ne_of_lt (Nat.lt_of_lt_of_le h (Nat.le_add_right n 6))
 have gS2:h''.get? (n+6)=some (aS [.ref t] (cS+1)):=gS'
 have gt2:=up _ _ (Nat.ne_of_gt big) gt
 have q0:gP n a c xs ys h'' [] 0:=⟨rfl,nofun⟩
 exact aFJ hh h1 h2 hN hX hY res (N-1) 1 _ [.ref t] _ false rfl h0 ⟨up _ _ (nk (by decide)) st'.z,up _ _ (nk (by decide)) st'.I,up _ _ (Nat.ne_of_lt (Nat.lt_add_of_pos_right (by decide))) st'.r,st'.i1.at fun o g=>up _ _ (nk (by decide)) g,st'.i2.at fun o g=>up _ _ (nk (by decide)) g,st'.g1.at fun o g=>up _ _ (lS h1) g,st'.g2.at fun o g=>up _ _ (lS h2) g⟩ big
  ⟨_,gt2⟩ gS2 (q0.push big hx hy gt2) fun h₃ tk₃ acc' c' k₃ g₃ q₃=>hR h₃ tk₃ acc' c' (fun b o hb g=>k₃ b o hb (up b o (lS hb) (kz b o g fun z=>Nat.lt_irrefl _ (Nat.lt_of_lt_of_le hb z.1)))) g₃ q₃
theorem aFO (hh:A.handled=none)(h1:l1<n)(h2:l2<n)(h0:0<N)(hN:N≤16777216)(hX:N≤xs.length)(hY:N≤ys.length){u0 u1 u2:Value}(st:ZS n l1 l2 a c N xs ys 0 .none (.bool false) s.heap)(gO:s.heap.get? (n+4)=some (aW [u0,u1,u2] 0))(sz:s.heap.objs.size=n+6){Q:Value→Shared→Prop}
  (hQ:∀h' tk acc' c',(∀b o,b<n→s.heap.get? b=some o→h'.get? b=some o)→h'.get? (n+6)=some (aS acc' c')→gP n a c xs ys h' acc' N→Q (.ref (n+6)) {s with heap:=h',toks:=tk}):wpAny (model prog w) A (call (.type "list") [.ref (n+5)]) Q E s:=by
 refine callType_codes (Q₁:=fun obj s₁=>obj=.ref s.heap.objs.size∧s₁={s with heap:=s.heap.push {cls:=.type "list",data:=.seq #[]}}) F.called_list (F.typeCall_list_1 _) F.entry_list_init
  (code_list_new _ ⟨rfl,rfl⟩) fun obj s₁ h₁=>?_
 obtain ⟨rfl,rfl⟩:=h₁
 have hS:(s.heap.push {cls:=.type "list",data:=.seq #[]}).get? s.heap.objs.size=some {cls:=.type "list",data:=.seq #[]}:=Heap.get?_push_size _ rfl
 refine ⟨⟨_,hS,rfl⟩,F.args_list_init_2 _ _,?_⟩
 rw [sz] at hS ⊢
 have up1:∀b o,b≠n+6→s.heap.get? b=some o→(s.heap.push {cls:=.type "list",data:=.seq #[]}).get? b=some o:=fun b o zz g=>Heap.get?_push_of_some _ g
 generalize (s.heap.push {cls:=.type "list",data:=.seq #[]})=g1 at hS up1 ⊢
 show wpAny _ _ (do let old ←Builtin.List.listItems (.ref (n+6)); Builtin.List.listUpdate (.ref (n+6)) (fun zz=>#[]); letGo old.toList.reverse; Builtin.List.listExtendWith (.ref (n+6)) (.ref (n+5)) .none) _ _ _
 refine wpAny_bind ?_
 unfold Builtin.List.listItems
 refine wpAny_bind (wpAny_seqItems hS rfl (wpAny_pure ?_))
 show wpAny _ _ (updateSeq (n+6) (fun zz=>#[])>>=fun zz=>letGo (#[]:Array Value).toList.reverse>>=fun zz=>Builtin.List.listExtendWith (.ref (n+6)) (.ref (n+5)) .none) _ _ _
 refine wpAny_bind (wpAny_updateSeq hS rfl ?_)
 have hS₂:(g1.update (n+6) (Obj.mapSeq (fun zz=>(#[]:Array Value)))).get? (n+6)=some (aS [] 0):=Heap.get?_update_self (Obj.mapSeq (fun zz=>(#[]:Array Value))) hS rfl
 have up2:∀b o,b≠n+6→s.heap.get? b=some o→(g1.update (n+6) (Obj.mapSeq (fun zz=>(#[]:Array Value)))).get? b=some o:=fun b o nb g=>(Heap.get?_update_other _ _ (Ne.symm nb)).trans (up1 b o nb g)
 generalize (g1.update (n+6) (Obj.mapSeq (fun zz=>(#[]:Array Value))))=g2 at hS₂ up2 ⊢
 refine wpAny_bind (wpAny_letGo ?_)
 have z2:ZO g2 n .none (.bool false):=up2 _ _ (nk (by decide)) st.z
 have hT:Shared.TypeIs {s with heap:=g2} (.ref (n+5)) "zip" := ⟨_,z2,rfl⟩
 unfold Builtin.List.listExtendWith
 refine wpAny_bind (wpAny_typeOf (T := "zip") hT ?_)
 have e1:Builtin.List.listSameRef (.ref (n+6)) (.ref (n+5))=false:=by simp [Builtin.List.listSameRef]
 have e2:(Value.type "zip" == Value.type "list")=false:=by decide
 have e3:(Value.type "zip" == Value.type "tuple")=false:=by decide
 simp only [e1,e2,e3,Bool.or_false,Bool.false_eq_true,if_false]
 refine wpAny_bind (wpAny_pyIter_zip z2 ?_)
 refine wpAny_bind (wpAny_holding (aFM hT ?_))
 refine wpAny_ite_split (fun zz=>?_) (fun hab=>absurd rfl hab)
 refine wpAny_bind (wpAny_rule ?_)
 refine wpAny_bind ?_
 show wpAny _ _ (updateSeq (n+6) (·.push .none)>>=fun zz=>updateSeq (n+6) (·.pop)) _ _ _
 refine wpAny_bind (wpAny_updateSeq hS₂ rfl ?_)
 have hS₃:=Heap.get?_update_self (Obj.mapSeq (·.push Value.none)) hS₂ rfl
 refine wpAny_updateSeq (hz:=by seq_fits) hS₃ rfl ?_
 have hS₄:=Heap.get?_update_self (Obj.mapSeq (·.pop)) hS₃ rfl
 have up4:∀b o,b≠n+6→s.heap.get? b=some o→((g2.update (n+6) (Obj.mapSeq (·.push Value.none))).update (n+6) (Obj.mapSeq (·.pop))).get? b=some o:=fun b o nb g=>(Heap.get?_update_other _ _ (Ne.symm nb)).trans ((Heap.get?_update_other _ _ (Ne.symm nb)).trans (up2 b o nb g))
 generalize (g2.update (n+6) (Obj.mapSeq (·.push Value.none))).update (n+6) (Obj.mapSeq (·.pop))=g4 at hS₄ up4 ⊢
 have lS:∀{l:Addr},l<n→l≠n+6:=fun h=>Nat.ne_of_lt (Nat.lt_of_lt_of_le h (Nat.le_add_right n 6))
 refine wpAny_pure ⟨plainId_quiet F.plain_extend_loop _,aFN (A:=A.in1) hh h1 h2 h0 hN hX hY .none ⟨up4 _ _ (nk (by decide)) st.z,up4 _ _ (nk (by decide)) st.I,up4 _ _ (Nat.ne_of_lt (Nat.lt_add_of_pos_right (by decide))) st.r,st.i1.at fun o g=>up4 _ _ (nk (by decide)) g,st.i2.at fun o g=>up4 _ _ (nk (by decide)) g,st.g1.at fun o g=>up4 _ _ (lS h1) g,st.g2.at fun o g=>up4 _ _ (lS h2) g⟩ (up4 _ _ (nk (by decide)) gO) hS₄ fun h' tk acc' c' k' g' q'=>?_⟩
 exact ⟨rfl,hQ h' tk acc' c' (fun b o hb g=>k' b o hb (up4 b o (lS hb) g)) g' q'⟩
theorem qW {h:Heap}{m:Nat}(e:h.objs.size=m)(o:Obj)(hf:o.isFreed=false):∃h',h.push o=h'∧h'.objs.size=m+1∧h'.get? m=some o∧∀b ob,h.get? b=some ob→h'.get? b=some ob:=
 ⟨_,rfl,(Heap.size_push ..).trans (congrArg (·+1) e),e▸Heap.get?_push_size _ hf,fun b ob g=>Heap.get?_push_of_some _ g⟩
theorem aFP {ra:Addr}{b:Int}{t u v:Tok}(g:IsRange s.heap ra a b c t u v)(sm:Builtin.Range.small a b c=true)(hN:Builtin.Range.rangeSize a b c=N)(g1:s.heap.IsList l1 xs.toArray)(g2:s.heap.IsList l2 ys.toArray){Q:Value→Shared→Prop}
  (k:∀h',ZS s.heap.objs.size l1 l2 a c N xs ys 0 .none (.bool false) h'→h'.get? (s.heap.objs.size+4)=some (aW [.none,.none,.none] 0)→h'.objs.size=s.heap.objs.size+6→aG NoX s.heap h'→Q (.ref (s.heap.objs.size+5)) {s with heap:=h'}) :
  wpAny (model prog w) A (call (.type "zip") [.ref ra,.ref l1,.ref l2]) Q E s:=by
 refine callType_new (S:=fun zz R s'=>s'=s∧∀h',ZS s.heap.objs.size l1 l2 a c N xs ys 0 .none (.bool false) h'→h'.get? (s.heap.objs.size+4)=some (aW [.none,.none,.none] 0)→h'.objs.size=s.heap.objs.size+6→aG NoX s.heap h'→R (.ok (.ret (.ref (s.heap.objs.size+5)))) {s with heap:=h'}) F.called_zip (by decide) (RZ _) (SA _ _ _) (fun obj=>SB _) F.entry_zip_new (.of_wp fun prog w A R s' hs=>?_) ⟨rfl,fun h' st gO sz kp=>⟨⟨_,st.z,rfl⟩,k h' st gO sz kp⟩⟩
 obtain ⟨rfl,k⟩:=hs
 show wpAny _ _ (Builtin.SmallTypes.newClass "zip" ⟨.type "zip" :: [.ref ra,.ref l1,.ref l2],[]⟩>>=_) _ _ _
 rw [SC]
 refine wpAny_bind (wpAny_pure ?_)
 show wpAny _ _ (Builtin.SmallTypes.iterAll [.ref ra,.ref l1,.ref l2]>>=_) _ _ _
 unfold Builtin.SmallTypes.iterAll
 refine wpAny_bind (wpAny_bind ?_)
 rw [List.forIn_cons]
 refine wpAny_bind (wpAny_bind (wpAny_holding (wpAny_pyIter_range g sm (wpAny_pure ?_))))
 dsimp only
 rw [List.forIn_cons]
 refine wpAny_bind (wpAny_bind (wpAny_holding (wpAny_pyIter_list (g1.push _) (wpAny_pure ?_))))
 dsimp only
 rw [List.forIn_cons]
 refine wpAny_bind (wpAny_bind (wpAny_holding (wpAny_pyIter_list ((g2.push _).push _) (wpAny_pure ?_))))
 dsimp only
 rw [List.forIn_nil]
 refine wpAny_pure (wpAny_pure ?_)
 show wpAny _ _ (do ret (←Builtin.SmallTypes.newRecord (.type "zip") (Builtin.SmallTypes.ownedTupleFields++[.bool false,←newTuple _,←newTuple _]))) _ _ _
 refine wpAny_bind (wpAny_newTuple (wpAny_bind (wpAny_newTuple (wpAny_bind ?_) (by show 3≤_; decide))) (by show 3≤_; decide))
 unfold Builtin.SmallTypes.newRecord
 dsimp only
 refine wpAny_newObj_type ?_ (by show 5≤_; decide)
 dsimp only
 obtain ⟨f1,q1,z1,r1,u1⟩:=qW (h:=s'.heap) rfl {cls:=.type "range_iterator",data:=.fields #[rawInt a,rawInt (Builtin.Range.rangeSize a b c),rawInt c]} rfl
 rw [q1,z1]
 obtain ⟨f2,q2,z2,r2,u2⟩:=qW z1 {cls:=.type "list_iterator",data:=.fields #[.ref l1,.int 0 0]} rfl
 rw [q2,z2]
 obtain ⟨f3,q3,z3,r3,u3⟩:=qW z2 {cls:=.type "list_iterator",data:=.fields #[.ref l2,.int 0 0]} rfl
 rw [q3,z3]
 obtain ⟨f4,q4,z4,r4,u4⟩:=qW z3 (aW [.ref s'.heap.objs.size,.ref (s'.heap.objs.size+1),.ref (s'.heap.objs.size+2)] 0) rfl
 obtain ⟨f5,q5,z5,r5,u5⟩:=qW z4 (aW [.none,.none,.none] 0) rfl
 obtain ⟨f6,q6,z6,r6,u6⟩:=qW z5 {cls:=.type "zip",data:=.fields #[.none,.bool false,.bool false,.ref (s'.heap.objs.size+3),.ref (s'.heap.objs.size+4)]} rfl
 have up:∀b ob,s'.heap.get? b=some ob→f6.get? b=some ob:=fun b ob g=>u6 _ _ (u5 _ _ (u4 _ _ (u3 _ _ (u2 _ _ (u1 _ _ g)))))
 have fin:=k f6 ⟨r6,u6 _ _ (u5 _ _ r4),?_,⟨_,u6 _ _ (u5 _ _ (u4 _ _ (u3 _ _ r2))),rfl,rfl⟩,⟨_,u6 _ _ (u5 _ _ (u4 _ _ r3)),rfl,rfl⟩,g1.at fun o g=>up _ _ g,g2.at fun o g=>up _ _ g⟩ (u6 _ _ r5) z6 fun b ob g zz=>up b ob g
 ·rw [←q6,←q5,←q4] at fin
  have e4:(f3.push (aW [.ref s'.heap.objs.size,.ref (s'.heap.objs.size+1),.ref (s'.heap.objs.size+2)] 0)).objs.size=s'.heap.objs.size+4:=q4▸z4
  have e5:((f3.push (aW [.ref s'.heap.objs.size,.ref (s'.heap.objs.size+1),.ref (s'.heap.objs.size+2)] 0)).push (aW [.none,.none,.none] 0)).objs.size=s'.heap.objs.size+5:=by rw [q4]; exact q5▸z5
  refine wpAny_pure ⟨_,rfl,?_⟩
  show R (.ok (.ret (.ref ((f3.push (aW [.ref s'.heap.objs.size,.ref (s'.heap.objs.size+1),.ref (s'.heap.objs.size+2)] 0)).push (aW [.none,.none,.none] 0)).objs.size))) {s' with heap:=((f3.push (aW [.ref s'.heap.objs.size,.ref (s'.heap.objs.size+1),.ref (s'.heap.objs.size+2)] 0)).push (aW [.none,.none,.none] 0)).push {cls:=.type "zip",data:=.fields #[.none,.bool false,.bool false,.ref (s'.heap.objs.size+3),.ref (f3.push (aW [.ref s'.heap.objs.size,.ref (s'.heap.objs.size+1),.ref (s'.heap.objs.size+2)] 0)).objs.size]}}
  rw [e5,e4]
  exact fin
 ·show f6.get? s'.heap.objs.size=_
  rw [u6 _ _ (u5 _ _ (u4 _ _ (u3 _ _ (u2 _ _ r1)))),hN,Int.ofNat_zero,Int.zero_mul,Int.add_zero,Int.sub_zero]
end
theorem aFQ {C:Cx}{X:Addr→Prop}{h h':Heap}{a c:Int}{N:Nat}{r xs ys:List PV}{its1 its2 acc:List Value}(kp:aG NoX h h')(newX:∀b,h.objs.size≤b→¬ X b)(r1:Reps C X h xs its1)(r2:Reps C X h ys its2)(hr:r=pU a c N)(hX:N≤xs.length)(hY:N≤ys.length)
  (q:gP h.objs.size a c its1 its2 h' acc N):Reps C X h' (vQ r xs ys) acc:=by
 have rl:r.length=N:=hr▸tM N a c
 refine Reps.of_get (by unfold vQ; rw [List.length_map,List.length_range,rl,q.l]) fun j d v hd hv=>?_
 unfold vQ at hd
 rw [List.getElem?_map] at hd
 refine aO (G:=fun d=>Rep C X h' d v) hd fun j' hj'=>?_
 obtain ⟨hj,rfl⟩:j<r.length∧j=j':=by
  by_cases hj:j<r.length
  ·rw [List.getElem?_range hj] at hj'
   exact ⟨hj,Option.some.inj hj'⟩
  ·rw [List.getElem?_eq_none (by rw [List.length_range]; exact Nat.le_of_not_lt hj)] at hj'
   cases hj'
 rw [rl] at hj
 obtain ⟨t,u,x,y,e1,e2,e3,e4,e5⟩:=(q.t j v hv).t
 subst e1
 have gd:∀{l:List PV},j<l.length→l[j]?=some (l.getD j .none):=fun {l} h=>by rw [List.getD_eq_getElem?_getD,List.getElem?_eq_getElem h]; rfl
 have fit:Fit X X h h':=.nox kp
 have p0:dY (a+j*c) (.int (a+j*c) u):=.mk u
 have e0:r.getD j .none=.int (a+j*c):=wV N a c j _ (hr▸gd (rl.symm▸hj))
 obtain ⟨x',hx',p1⟩:=r1.get j _ (gd (Nat.lt_of_lt_of_le hj hX))
 cases hx'.symm.trans e3
 obtain ⟨y',hy',p2⟩:=r2.get j _ (gd (Nat.lt_of_lt_of_le hj hY))
 cases hy'.symm.trans e4
 exact .mk (newX t (Nat.le_of_lt (Nat.lt_of_le_of_lt (Nat.le_add_right _ 6) e2))) e5 ⟨e0.symm▸p0,Rep.keep fit _ p1,Rep.keep fit _ p2,rfl⟩
theorem aFR {T:Th}{G:Gl}(hG:aY T G){fp zp gp rp zq p:Pos}{es:List E}{x y:E}(hs:aZ (aF T G) es)(hx:aF T G x)(hy:aF T G y):aF T G (.lzip fp zp gp es rp x y zq p):=fun σ d h=>
 oif h fun g h=>aP g fun g g3=>aP g fun g1 g2=>aB h fun r hr h=>aB h fun xs hxs h=>aB h fun ys hys h=>oif h fun hz h=>aP hz fun hn hz=>aP hz fun hz1 hz2=>wR (G:=qI T G (.lzip fp zp gp es rp x y zq p) σ) h <| aB hxs fun dx hdx hxs=>aB hys fun dy hdy hys=>fun A X env s c Q E k=>by
 have hdx:=bR hdx
 have hdy:=bR hdy
 have hall:eA (evs G [x,y] σ)=some [.v dx,.v dy]:=by
  show (ev G x σ).bind _=_
  rw [hdx]
  show ((ev G y σ).bind _).map _=_
  rw [hdy]
  rfl
 have hh:=(hG.bud A c.pa).handled
 refine Call_ (gname hG g1 (hG.bval (fH,_) (.tail _ (.head _))) c (tJ rfl (tK _ rfl (wpAny_items_cons (Call_ (gname hG g2 (hG.bval (iV,_) (.tail _ (.tail _ (.head _)))) c (tJ (mB (pos:=zq) (env:=env) hall).any (tK _ (mB (pos:=zq) (env:=env) hall).any (wpAny_items_cons (CT hG hs g3 hr c _ E fun v1 s₁ q1=>?_) rfl))))) rfl))))
 cases q1 with | @mk ra a b c' t u z N x1 e1 g0 p0=>
 subst e1
 refine wH (.cons hx (.cons hy .nil)) hall (c.ext x1) _ E fun vs s₂ q2=>?_
 have c2:=c.ext (x1.trans q2.x)
 have g0:=q2.x.keep _ _ g0 id
 cases q2.r with | @mk v1 _ r1 r=>cases r with | @mk v2 _ r2 r=>
 cases r
 cases dJ (d:=.v dx) hxs r1 with | @mk l1 its1 n1 _ gl1 rr1=>
 cases dJ (d:=.v dy) hys r2 with | @mk l2 its2 n2 _ gl2 rr2=>
 have rl:r.length=N:=p0.e▸tM N a c'
 have hX:N≤xs.length:=rl▸dec hz1
 have hY:N≤ys.length:=rl▸dec hz2
 have h0:0<N:=by
  cases N with
  |zero=>rw [p0.e] at hn; cases hn
  |succ m=>exact Nat.succ_pos m
 refine ⟨nO _,aFP g0 p0.sm p0.sz ⟨_,gl1,rfl,n1,rfl⟩ ⟨_,gl2,rfl,n2,rfl⟩ fun h' st gO sz kp=>?_⟩
 refine wpAny_items_nil ⟨nO _,?_⟩
 refine aFO (s:={s₂ with heap:=h'}) hh (Heap.lt_size gl1) (Heap.lt_size gl2) h0 p0.le (rr1.length▸hX) (rr2.length▸hY) st gO sz fun h3 tk acc' cc' k3 g3 q3=>?_
 have kp3:aG NoX s₂.heap h3:=fun b o g zz=>k3 b o (Heap.lt_size g) (kp b o g id)
 have newX:∀b,s₂.heap.objs.size≤b→¬ X b:=fun b hb x=>(c2.e.bnd b x).elim fun o g=>Nat.lt_irrefl _ (Nat.lt_of_lt_of_le (Heap.lt_size g) hb)
 exact k _ _ ⟨(x1.trans q2.x).trans ⟨kp3,rfl,rfl⟩,show LV _ _ _ _ _ from .mk (newX _ (Nat.le_add_right _ 6)) g3 (aFQ kp3 newX rr1 rr2 p0.e hX hY q3)⟩
structure iJ (T:Th)(G:Gl)(x:E):Prop where
 e:aF T G x
 t:dC T G x
 f:fU x=true→iF T G x
 c:∀elt g gs sc p,x=.comp elt g gs sc p→nU T G elt g gs sc
theorem aY.sc {T:Th}{G:Gl}(h:aY T G)(K:Ks):aY T {G with sc:=K}:=
 ⟨h.gns,h.bns,h.const,h.tab,h.inSet,h.cattr,h.fld,h.sto,h.tget,h.bud,h.bname,h.bval,h.icall,h.call,h.meth⟩
section
variable {T:Th}{G:Gl}{x:V.E}
noncomputable abbrev DJ (x:V.E):Prop:=∀env,isTrue x.b env (eval x.b env)=(do let v ←eval x.b env; standAt x.b.pos; holding [v] (truthy v))
theorem DK (he:aF T G x)(ht:∀σ o,tr G x σ o=trV o)(hi:DJ x):dC T G x:=fun σ b h=>by
 rw [ht] at h
 exact aB h fun d hd h A X env s c Q E k=>wpAny_isTrue_value (he σ d hd A X env s c _ E fun v s₁ q=>QT h q.r _ E fun b' s₂ q2=>k _ _ (q.vr q2)) (hi env)
theorem iJ.p (he:aF T G x)(ht:dC T G x)(nf:fU x=false)(nc:nH x=false):iJ T G x:=⟨he,ht,fun h=>Bool.noConfusion (nf.symm.trans h),fun zz zz zz zz zz h=>by rw [h] at nc; cases nc⟩
theorem iJ.v (he:aF T G x)(ht:∀σ o,tr G x σ o=trV o)(hi:DJ x)(nf:fU x=false)(nc:nH x=false):iJ T G x:=.p he (DK he ht hi) nf nc
theorem iJ.fr (he:iF T G x)(ht:∀σ o,tr G x σ o=trV o)(hi:DJ x)(nc:nH x=false):iJ T G x:=⟨he.e,DK he.e ht hi,fun zz=>he,fun zz zz zz zz zz h=>by rw [h] at nc; cases nc⟩
theorem aZ.map {P Q:V.E→Prop}{l:List V.E}(h:aZ P l)(f:∀x,P x→Q x):aZ Q l:=by
 induction h with
 |nil=>exact .nil
 |cons p q ih=>exact .cons (f _ p) ih
theorem aZ.e {l:List V.E}(h:aZ (iJ T G) l):aZ (aF T G) l:=h.map fun zz q=>q.e
theorem aZ.t {l:List V.E}(h:aZ (iJ T G) l):aZ (dC T G) l:=h.map fun zz q=>q.t
end
theorem DL {T:Th}(hc:fW T)(e:E):∀G,aY T G→iJ T G e:=
 @E.rec (fun e=>∀G,aY T G→iJ T G e) (fun g=>∀G G',aY T G→aY T G'→mE T G G' g) (fun it=>∀G t,aY T G→tOk t it=true→nQ T G it t) (fun es=>∀G,aY T G→aZ (iJ T G) es) (fun gs=>∀G,aY T G→∀g∈gs,mE T G G g) (fun o=>∀G,aY T G→∀e,o=some e→aF T G e)
  (fun zz zz zz zz zz=>.v aCG (fun zz zz=>rfl) (fun zz=>rfl) rfl rfl)
  (fun zz zz zz zz=>.v QM (fun zz zz=>rfl) (fun zz=>rfl) rfl rfl)
  (fun zz zz zz hG=>.v (aDi hG) (fun zz zz=>rfl) (fun zz=>rfl) rfl rfl)
  (fun zz zz zz zz hl hr G hG=>.fr (aCN (hl G hG).e (hr G hG).e) (fun zz zz=>rfl) (fun zz=>rfl) rfl)
  (fun zz zz hx G hG=>.v (aCS (hx G hG).e) (fun zz zz=>rfl) (fun zz=>rfl) rfl rfl)
  (fun zz zz hx G hG=>.p (aCR (hx G hG).e) (aCT (hx G hG).t) rfl rfl)
  (fun zz zz zz hs G hG=>.p (aCZ (hs G hG).e) (aCW (hs G hG).t) rfl rfl)
  (fun zz zz zz zz ht ha hb G hG=>.p (sIf (ht G hG).t (ha G hG).e (hb G hG).e) (fun zz zz h=>no h) rfl rfl)
  (fun zz zz zz zz hl hs G hG=>.p (aDc hc (hl G hG).e (hs G hG).e) (aDd hc (hl G hG).e (hs G hG).e) rfl rfl)
  (fun zz zz zz zz hl G hG=>.p (aEc hG (hl G hG).e) (aEd hG (hl G hG).e) rfl rfl)
  (fun zz zz hs G hG=>.fr (aCO (hs G hG).e) (fun zz zz=>rfl) (fun zz=>rfl) rfl)
  (fun zz zz zz hs G hG=>.v (aCP (hs G hG).e) (fun zz zz=>rfl) (fun zz=>rfl) rfl rfl)
  (fun elt g gs sc p he hg hgs G hG=>
   have hp:nU T G elt g gs sc:=⟨(he _ (hG.sc _)).f,(he _ (hG.sc _)).e,hg _ _ hG (hG.sc _),hgs _ (hG.sc _)⟩
   have h:=aEH hG.bud hp
   ⟨h.e,DK h.e (fun zz zz=>rfl) (fun zz=>rfl),fun zz=>h,fun zz zz zz zz zz e=>by cases e; exact hp⟩)
  (fun zz zz zz zz zz hG=>.v (aDl hG) (fun zz zz=>rfl) (fun zz=>rfl) rfl rfl)
  (fun zz zz zz zz zz hG=>.v (aDm hG) (fun zz zz=>rfl) (fun zz=>rfl) rfl rfl)
  (fun zz zz zz ho hi G hG=>.v (CI (ho G hG).e (hi G hG).e) (fun zz zz=>rfl) (fun zz=>rfl) rfl rfl)
  (fun zz zz zz zz hi G hG=>.v (aDq hG (hi G hG).e) (fun zz zz=>rfl) (fun zz=>rfl) rfl rfl)
  (fun zz zz zz zz zz zz ho h1 h2 h3 G hG=>.v (aDw (ho G hG).e (h1 G hG) (h2 G hG) (h3 G hG)) (fun zz zz=>rfl) (fun zz=>rfl) rfl rfl)
  (fun zz zz zz zz hs G hG=>.v (aDU hG (hs G hG).e) (fun zz zz=>rfl) (fun zz=>rfl) rfl rfl)
  (fun zz zz zz zz hs G hG=>.v (aDV hG (hs G hG).e) (fun zz zz=>rfl) (fun zz=>rfl) rfl rfl)
  (fun zz zz zz zz zz hs G hG=>.v (aEm hG (hs G hG).e) (fun zz zz=>rfl) (fun zz=>rfl) rfl rfl)
  (fun zz zz zz zz zz ho hs G hG=>.v (aEb hG (ho G hG).e (hs G hG).e) (fun zz zz=>rfl) (fun zz=>rfl) rfl rfl)
  (fun zz zz zz zz zz hs G hG=>.v (aEe hG (hs G hG).e) (fun zz zz=>rfl) (fun zz=>rfl) rfl rfl)
  (fun zz zz zz zz zz zz hi hj G hG=>.v (aDy (hi G hG).e (hj G hG).e) (fun zz zz=>rfl) (fun zz=>rfl) rfl rfl)
  (fun zz zz zz zz zz zz zz zz zz hs hx hy G hG=>.v (aFR hG (hs G hG).e (hx G hG).e (hy G hG).e) (fun zz zz=>rfl) (fun zz=>rfl) rfl rfl)
  (fun zz zz zz=>.p (fun zz zz h=>no h) (fun zz zz h=>no h) rfl rfl)
  (fun zz zz zz hi hs G G' hG hG'=>.mk (hi G _ hG) (hs G' hG').t)
  (fun zz he G zz hG zz=>RW hG (he G hG).e)
  (fun zz zz zz hs G zz hG zz=>RX hG (hs G hG).e)
  (fun zz zz zz hs G t hG ht=>SE hG (fun zz zz e=>by rw [e] at ht; cases ht) (hs G hG).e)
  (fun zz zz=>.nil)
  (fun zz zz h hr G hG=>.cons (h G hG) (hr G hG))
  (fun zz zz=>nofun)
  (fun zz zz h hr G hG g hm=>by
   cases hm with
   |head=>exact h G G hG hG
   |tail _ hm=>exact hr G hG g hm)
  (fun zz zz=>nofun)
  (fun zz h G hG e q=>by cases q; exact (h G hG).e)
  e
theorem aFS {T:Th}{G:Gl}(hc:fW T)(hG:aY T G)(it:It)(t:Tg)(h:tOk t it=true):nQ T G it t:=by
 have each:∀es:List E,aZ (aF T G) es:=fun es=>by
  induction es with
  |nil=>exact .nil
  |cons e r ih=>exact .cons (DL hc e G hG).e ih
 cases it with
 |val e=>exact RW hG (DL hc e G hG).e
 |range fp es p=>exact RX hG (each es)
 |zip fp es p=>exact SE hG (fun zz zz e=>by rw [e] at h; cases h) (each es)
theorem aFT {T:Th}{G:Gl}(hc:fW T)(hG:aY T G)(sts:List S):iI T G sts:=
 have g:=fun e=>DL hc e G hG
 @S.rec_1 (cW T G) (iI T G)
  (fun e zz=>aFC (g e).e)
  (fun zz zz zz zz zz zz a zz zz zz=>aFD hG (g a).e)
  (fun zz zz e zz=>aFj hG.bud (g e).e (g e).f (g e).c)
  (fun zz zz zz zz zz zz zz=>aFA hG)
  (fun zz zz zz zz zz zz zz=>aF8 hG)
  (fun zz zz zz zz zz zz zz zz=>aF9 hG)
  (fun zz zz zz e zz=>aFk (g e).e)
  (fun zz zz zz e zz=>aFt hG.bud (g e).e)
  (fun zz zz zz zz e zz=>aFu hG (g e).e)
  (fun zz zz i zz e zz=>aEZ (g e).e (g i).e)
  (fun zz zz zz e zz=>aEW (g e).e)
  (fun zz zz i zz j zz e zz=>aFb (g e).e (g i).e (g j).e)
  (fun zz zz i zz j zz zz e zz=>aFc (g e).e (g i).e (g j).e)
  (fun zz zz zz e zz zz=>aFd (g e).e)
  (fun t zz zz zz ha hb=>aEK (g t).t ha hb)
  (fun t zz zz zz ha hb=>aEN (g t).t ha hb)
  (fun t it zz zz zz ha hb=>aFf hG.bud (aFS hc hG it t) ha hb)
  (fun zz=>aEL)
  (fun zz=>aEM)
  (fun zz zz zz zz h=>no h)
  aEI
  (fun zz zz h hr=>aEJ h hr)
  sts
noncomputable def xD:List Nm→Bool
 |[]=>true
 |x::r=>!(gH x r) && xD r
noncomputable def aFU (o:Option NameKind):Bool:=decide (o=some .local) || decide (o=some .cell)
noncomputable def DM (D:Df):Bool:=decide (D.sc.kind=.function) && (!D.sc.isCoroutine && (!D.sc.isGenerator && ((D.sc.names.all fun p=>!(decide (p.2=.free))) && ((D.params.all fun x=>aFU (dP x D.sc.names)) && xD D.params))))
structure TU (D:Df):Prop where
 k:D.sc.kind=.function
 co:D.sc.isCoroutine=false
 ge:D.sc.isGenerator=false
 nf:∀p∈D.sc.names,p.2≠.free
 pk:∀x∈D.params,dP x D.sc.names=some .local∨dP x D.sc.names=some .cell
 nd:xD D.params=true
theorem aFV {D:Df}(h:DM D=true):TU D:=aP h fun h1 h=>aP h fun h2 h=>aP h fun h3 h=>aP h fun h4 h=>aP h fun h5 h6=>
 ⟨dec h1,dZ h2,dZ h3,fun p hp=>of_decide_eq_false (dZ (List.all_eq_true.mp h4 p hp)),fun x hx=>xA (List.all_eq_true.mp h5 x hx) (fun h=>.inl (dec h)) fun h=>.inr (dec h),h6⟩
inductive Par (C:Cx)(X:Addr→Prop)(h:Heap):List Nm→Sg→List Value→Prop
 |nil:Par C X h [] [] []
 |cons {x:Nm} {sl:Slot} {v:Value} {ps:List Nm} {σ:Sg} {vs:List Value} (ok:bU C X h sl v) (r:Par C X h ps σ vs):Par C X h (x::ps) ((x,sl)::σ) (v::vs)
section
variable {C:Cx}{X:Addr→Prop}{h:Heap}
theorem Par.len {ps:List Nm}{σ:Sg}{vs:List Value}(r:Par C X h ps σ vs):vs.length=ps.length:=by
 induction r with
 |nil=>rfl
 |cons ok r ih=>exact congrArg (·+1) ih
structure DN (C:Cx)(X:Addr→Prop)(h:Heap)(ps:List Nm)(vs:List Value)(x:Nm)(sl:Slot)(v:Value):Prop where
 e:aD x (ps.zip vs)=some v
 ok:bU C X h sl v
 m:x∈ps
theorem Par.get {ps:List Nm}{σ:Sg}{vs:List Value}(r:Par C X h ps σ vs){x:Nm}{sl:Slot}(hx:aD x σ=some sl):∃v,DN C X h ps vs x sl v:=by
 induction r with
 |nil=>cases hx
 | @cons y s v ps σ vs ok r ih=>
  have hx:(bif aC y x then some s else aD x σ)=some sl:=hx
  cases e:aC y x with
  |true=>
   rw [e] at hx
   cases hx
   exact ⟨v,by show (bif aC y x then some v else _)=_; rw [e]; rfl,ok,bH e▸.head _⟩
  |false=>
   rw [e] at hx
   exact (ih hx).imp fun u q=>⟨by show (bif aC y x then some v else aD x (ps.zip vs))=_; rw [e]; exact q.e,q.ok,.tail _ q.m⟩
theorem TV:∀{ps:List Nm} {ds:List PV} {vs:List Value},(ps.length==ds.length)=true→Reps C X h ds vs→Par C X h ps (dB ps ds) vs
 |[],[],vs,_,r=>by cases r; exact .nil
 |p::ps,d::ds,vs,e,r=>by
  cases r with |mk a b=>exact .cons a (TV (beq_iff_eq.mpr (Nat.succ.inj (eq_of_beq e))) b)
theorem DO:∀{ps:List Nm} {ds:List PV} {x:Nm} {sl:Slot},aD x (dB ps ds)=some sl→∃d,sl=.fz d
 |[],ds,x,sl,h=>no h
 |p::ps,[],x,sl,h=>no h
 |p::ps,d::ds,x,sl,h=>by
  have h:(bif aC p x then some (.fz d) else aD x (dB ps ds))=some sl:=h
  cases e:aC p x with
  |true=>rw [e] at h; exact ⟨d,(Option.some.inj h).symm⟩
  |false=>rw [e] at h; exact DO (ps:=ps) (ds:=ds) h
end
theorem aFW {x:Nm}{l:List Nm}(h:x∈l):gH x l=true:=by
 induction l with
 |nil=>cases h
 |cons y r ih=>cases h with
  |head=>show (aC x x || _)=true; rw [fV]; rfl
  |tail _ h=>show (_ || gH x r)=true; rw [ih h,Bool.or_true]
section
variable (k:PySem.Str→Option NameKind){x:Nm}{v:Value}
theorem TW:∀(l:List (PySem.Str × Value)) (m:PySem.Str→Option Value),PySem.bindC k l m=bindL (fun n=>if k n=some .local then none else some .local) l m
 |[],m=>rfl
 |(n,v)::r,m=>by
  show PySem.bindC k r _=bindL _ r _
  rw [TW r]
  by_cases e:k n=some .local
  ·rw [if_pos e,if_neg (by dsimp only; rw [if_pos e]; nofun)]
  ·rw [if_neg e,if_pos (by dsimp only; rw [if_neg e])]
theorem TX:∀(ps:List Nm) (vs:List Value) (m:PySem.Str→Option Value),x∉ps→bindL k ((ps.map mkS).zip vs) m (mkS x)=m (mkS x)
 |[],vs,m,_=>rfl
 |p::ps,[],m,_=>rfl
 |p::ps,v::vs,m,hn=>by
  show bindL k ((ps.map mkS).zip vs) _ (mkS x)=_
  rw [TX ps vs _ fun h=>hn (.tail _ h)]
  by_cases hk:k (mkS p)=some .local
  ·rw [if_pos hk,if_neg fun h=>hn (by cases qF h; exact .head _)]
  ·rw [if_neg hk]
theorem DP (hk:k (mkS x)=some .local):∀(ps:List Nm) (vs:List Value) (m:PySem.Str→Option Value),xD ps=true→aD x (ps.zip vs)=some v→bindL k ((ps.map mkS).zip vs) m (mkS x)=some v
 |[],vs,m,_,h=>no h
 |p::ps,[],m,_,h=>no h
 |p::ps,u::vs,m,hn,h=>aP hn fun h1 h2=>by
  have h0:(bif aC p x then some u else aD x (ps.zip vs))=some v:=h
  show bindL k ((ps.map mkS).zip vs) _ (mkS x)=_
  cases q:aC p x with
  |true=>
   rw [q] at h0
   cases bH q
   rw [TX k ps vs _ fun h=>Bool.false_ne_true ((dZ h1).symm.trans (aFW h)),if_pos hk,if_pos rfl]
   exact h0
  |false=>
   rw [q] at h0
   exact DP hk ps vs _ h2 h0
end
structure Std (C:Cx)(X:Addr→Prop)(h:Heap):Prop where
 base:aG NoX C.hb h
 newB:∀a,X a→C.hb.get? a=none
 bnd:∀a,X a→∃o,h.get? a=some o
structure aFX (C:Cx)(K:Ks)(X O:Addr→Prop)(env:Env)(s s₁:Shared)(σ:Sg):Prop where
 e:aK C K (Or2 X (Fra env)) (fun a=>X a∧¬ O a) env s₁.heap σ
 x:Ext NoX s s₁
 nw:∀a,Fra env a→s.heap.get? a=none
structure TY (h:Heap)(O:Addr→Prop)(x0:Nm)(σ:Sg)(ps:List Nm)(vs:List Value):Prop where
 o:∀sl v,aD x0 σ=some sl→aD x0 (ps.zip vs)=some v→∀a,aT h sl v a→O a
 f:∀y sl,aD y σ=some sl→y≠x0→∃d,sl=.fz d
theorem aFY {C:Cx}{X O:Addr→Prop}{D:Df}{fd:FuncData}{s s₁:Shared}{f:Addr}{σ:Sg}{vs:List Value}{x0:Nm}(hsc:fd.scope=D.sc)(fit:TU D)(hgl:fd.globals=C.gl)(hbi:fd.builtins=C.bi)
  (x:InCallC s (callEnvC fd s.heap.objs.size f).locals (bindL (callEnvC fd s.heap.objs.size f).kindOf ((D.params.map mkS).zip vs) fun zz=>none) (callEnvC fd s.heap.objs.size f).cells (PySem.bindC (callEnvC fd s.heap.objs.size f).kindOf ((D.params.map mkS).zip vs) fun zz=>none) s₁)
  (st:Std C X s.heap) (hp:Par C X s.heap D.params σ vs) (ow:TY s.heap O x0 σ D.params vs):aFX C D.sc.names X O (callEnvC fd s.heap.objs.size f) s s₁ σ:=by
 have hkind:∀y,(callEnvC fd s.heap.objs.size f).kindOf (mkS y)=dP y D.sc.names:=fun y=>by
  rw [gJ]; show fd.scope.names.lookup (mkS y)=_; rw [hsc]
 have hcells:(callEnvC fd s.heap.objs.size f).cells=cellsFrom (s.heap.objs.size+1) D.sc.names []:=by show cellsFrom _ fd.scope.names []=_; rw [hsc]
 have hkf:(callEnvC fd s.heap.objs.size f).scope.kind=.function:=by show fd.scope.kind=_; rw [hsc]; exact fit.k
 have hgl:(callEnvC fd s.heap.objs.size f).globals=C.gl:=hgl
 have hbi:(callEnvC fd s.heap.objs.size f).builtins=C.bi:=hbi
 have hloc:(callEnvC fd s.heap.objs.size f).locals=s.heap.objs.size:=rfl
 generalize callEnvC fd s.heap.objs.size f=env at x hkind hcells hkf hgl hbi hloc ⊢
 have above:∀y c,env.cells.lookup y=some c→s.heap.objs.size<c:=fun y c hy=>hloc▸x.above y c (mem_of_lookup hy)
 have nw:∀a,Fra env a→s.heap.get? a=none:=fun a h=>h.elim (fun e=>jE (Nat.le_of_eq (e▸hloc).symm)) fun ⟨y,hy⟩=>jE (Nat.le_of_lt (above y a hy))
 have ext:Ext NoX s s₁:=by
  obtain ⟨hh,tk,e1,kk⟩:=x.toInCall.done
  exact ⟨fun b o hb zz=>x.toInCall.keep b o hb,by rw [e1],by rw [e1]⟩
 have fit':Fit X (Or2 X (Fra env)) s.heap s₁.heap:=⟨ext.keep.any,fun a o g n z=>z.elim n fun f=>by rw [nw a f] at g; cases g⟩
 have cell:∀y,dP y D.sc.names=some .cell→∃c,env.cells.lookup (mkS y)=some c:=fun y hy=>hcells▸Option.isSome_iff_exists.mp (cellsFrom_some _ _ _ (.inl (by rw [←gJ]; exact hy)))
 have named:∀{y sl v},DN C X s.heap D.params vs y sl v→bJ env s₁.heap (mkS y) v:=fun {y sl v} q=>(fit.pk y q.m).elim (fun hl=>.loc (by rw [hkind]; exact hl) x.toInCall.ns (DP _ (by rw [hkind]; exact hl) _ _ _ fit.nd q.e)) fun hc=>(cell y hc).elim fun c hcl=>by
  refine .cell (.inl (by rw [hkind]; exact hc)) hcl ?_
  have ic:=x.cell _ _ hcl
  rw [TW,DP (v:=v) _ (by rw [hkind,hc]; rfl) _ _ _ fit.nd q.e] at ic
  exact ic
 have val:∀{y sl},aD y σ=some sl→DN C X s.heap D.params vs y sl ((aD y (D.params.zip vs)).getD .none):=fun hy=>(hp.get hy).elim fun v q=>by rw [q.e]; exact q
 have back:∀{y sl} (hy:aD y σ=some sl) {a},aT s₁.heap sl ((aD y (D.params.zip vs)).getD .none) a→aT s.heap sl ((aD y (D.params.zip vs)).getD .none) a:=fun hy=>aT.back (val hy).ok fun b zz o g=>ext.keep b o g id
 have fz:∀{y sl},aD y σ=some sl→∀{h:Heap} {v a},aT h sl v a→y=x0:=fun {y sl} hy {h v a} w=>Classical.byContradiction fun n=>(ow.f y sl hy n).elim fun d e=>by subst e; exact w
 refine ⟨⟨hkf,hgl,hbi,st.base.trans ext.keep,fun a h=>h.elim (st.newB a) fun f=>?_,⟨_,x.toInCall.ns⟩,.inr (.inl rfl),fun y c hc=>⟨.inr (.inr ⟨y,hc⟩),fun e=>Nat.lt_irrefl _ (by have:=above y c hc; rw [e,hloc] at this; exact this),_,x.cell _ _ hc⟩,fun y z c hy hz=>name_of_addr x.apart (mem_of_lookup hy) (mem_of_lookup hz),fun y k hk=>?_,fun a h=>h.elim (fun x=>(st.bnd a x).elim fun o g=>⟨o,ext.keep a o g id⟩) fun f=>?_,fun a b=>.inl b.1,fun a f b=>(st.bnd a b.1).elim fun o g=>(by rw [nw a f] at g; cases g),fun y=>(aD y (D.params.zip vs)).getD .none,?_⟩,ext,nw⟩
 ·cases g:C.hb.get? a with
  |none=>rfl
  |some o=>have:=st.base a o g id; rw [nw a f] at this; cases this
 ·have hky:=hkind y
  rw [hk] at hky
  cases k with
  | «local»=>exact hky
  |globalImplicit=>exact hky
  |globalExplicit=>exact trivial
  |cell=>exact ⟨hky,cell y hk⟩
  |free=>
   rw [gJ] at hk
   exact absurd rfl (fit.nf _ (mem_of_lookup hk))
 ·refine f.elim (fun e=>?_) fun ⟨y,hy⟩=>(x.cell _ _ hy).elim fun o q=>⟨o,q.1⟩
  obtain ⟨o,_,_,ho,_⟩:=x.toInCall.ns
  exact ⟨o,e▸ho⟩
 ·refine ⟨fun y sl hy=>named (val hy),fun y sl hy=>(val hy).ok.mono fit' fun a w=>⟨.inl ((val hy).ok.owned a w).1,fun o g=>ext.keep a o g id⟩,fun y z sl sl' ne hy hz a wa wb=>ne ((fz hy wa).trans (fz hz wb).symm),fun y sl hy a w f=>?_,fun y sl hy a w b=>?_⟩
  ·obtain ⟨o,g⟩:=((val hy).ok.owned a (back hy w)).2
   rw [nw a f] at g; cases g
  ·have e:=fz hy w
   subst e
   exact b.2 (ow.o sl _ hy (val hy).e a (back hy w))
structure PB (n:Nat)(A:Around):Prop where
 handled:A.handled=none
 guards:A.guards=some []
 units:A.units+200+10*n<cLine
 depth:A.depth+10+10*n<recursionLimit
theorem PB.bud {n:Nat}{A:Around}(h:PB n A):Bud A:=⟨h.handled,h.guards,by have:=h.units; omega⟩
theorem PB.room {n:Nat}{A:Around}(h:PB n A):A.depth<recursionLimit:=by have:=h.depth; omega
theorem PB.down {n:Nat}{A:Around}{env:Env}(h:PB (n+1) A):PB n (A.deeper env):=⟨h.handled,h.guards,by have:=h.units; rw [Around.deeper_units]; omega,by have:=h.depth; show A.depth+1+10+10*n<recursionLimit; omega⟩
inductive aX (C:Cx)(D:Df)(f:Addr):Prop
 |mk {o:Obj} {fd:FuncData} (g:C.hb.get? f=some o) (oc:o.cls=.type "function") (od:o.data=.func fd) (body:fd.body=.stmts (sbs D.body)) (sc:fd.scope=D.sc) (gl:fd.globals=C.gl) (bi:fd.builtins=C.bi) (clo:fd.closure=[]) (code:C.hb.CodeRec fd.code fd.qualname)
  (args:∀vals:List Value,vals.length=D.params.length→bindArgs fd ⟨vals,[]⟩=pure ((D.params.map mkS).zip vals)) (fit:DM D=true):aX C D f
structure aFZ (C:Cx)(K:Ks)(X O:Addr→Prop)(s:Shared)(fl:Fl)(σ:Sg)(env:Env)(X':Addr→Prop)(f:Flow)(s':Shared):Prop where
 x:Ext O s s'
 e:aK C K X' (fun a=>X a∧¬ O a) env s'.heap σ
 f:tS C (fun a=>X a∧¬ O a) s'.heap fl f
 g:∀a,X a→X' a
section
variable {T:Th}{G:Gl}{D:Df}{f:Addr}{A:Around}{X O:Addr→Prop}{s:Shared}
theorem TZ (fit:aX T.C D f)(A:Around)(s:Shared)(k:aG NoX T.C.hb s.heap):iH (model T.prog T.w) A (.ref f) s:=by
 cases fit with |mk g oc od=>exact aDL (k f _ g id) od
theorem DQ (fit:aX T.C D f)(hlim:T.C.hb.NoLimit)(hsc:G.sc=D.sc.names)(hc:fW T)(hG:aY T G){σ:Sg}{vs:List Value}{x0:Nm}{R:Result→Shared→Prop}(hroom:A.depth<recursionLimit)(hA:∀env,T.P (A.deeper env))(st:Std T.C X s.heap)
  (hp:Par T.C X s.heap D.params σ vs) (ow:TY s.heap O x0 σ D.params vs) {fl:Fl} {σ':Sg} (h:exs G D.body σ=some (fl,σ')) (hR:∀env X' f s',aFZ T.C G.sc X O s fl σ' env X' f s'→R (.ok (.ret (match f with |.ret v=>v |_=>.none))) s') :
  codeAny (model T.prog T.w) A (.call (.ref f) ⟨vs,[]⟩) R s:=by
 cases fit with | @mk o fd g oc od body sc gl bi clo code args fit=>
 have fit:=aFV fit
 have up:∀b o,T.C.hb.get? b=some o→s.heap.get? b=some o:=fun b o e=>st.base b o e id
 refine codeAny_call_cells hroom (up f o g) od (hlim.keeps up) (code.keeps up) body (args vs hp.len) clo (fun x hx=>?_) (fun s₁ x=>?_) (by rw [sc]; exact fit.co) (by rw [sc]; exact fit.ge) (by rw [sc]; exact fit.k)
 ·obtain ⟨p,hp1,hp2⟩:=List.mem_map.mp (List.of_mem_zip hx).1
  rw [sc,←hp2,←gJ]
  exact (fit.pk p hp1).imp id fun hc=>⟨hc,cellsFrom_some _ _ _ (.inl (by rw [←gJ]; exact hc))⟩
 ·have en:=aFY sc fit gl bi x st hp ow
  rw [←hsc] at en
  refine aFT hc hG D.body _ fl σ' h _ _ _ _ s₁ ⟨hA _,en.e⟩ _ (fun zz zz=>False) (fun f s₂ q=>?_) |> fun h=>wpAny_mono h (fun zz zz z=>z) fun zz zz z=>z.elim
  cases q with |mk t e o=>
  exact hR _ _ f s₂ ⟨⟨fun a o g n=>t.x.keep a o (en.x.keep a o g id) fun y=>y.1.elim (fun x=>y.2 ⟨x,n⟩) fun f=>(by rw [en.nw a f] at g; cases g),t.x.os.trans en.x.os,t.x.gens.trans en.x.gens⟩,e,o,fun a x=>t.g a (.inl x)⟩
theorem aGa (fit:aX T.C D f)(hlim:T.C.hb.NoLimit)(hsc:G.sc=D.sc.names)(hc:fW T)(hG:aY T G){args:List PV}{d:PV}(hlen:(D.params.length==args.length)=true)(h:dH (exs G D.body (dB D.params args))=some d)
  {vs:List Value} (hroom:A.depth<recursionLimit) (hA:∀env,T.P (A.deeper env)) (st:Std T.C X s.heap) (r:Reps T.C X s.heap args vs):Tr (model T.prog T.w) A (PySem.call (.ref f) vs) s (ER T.C X s (.v d)):=fun Q E k=>aB h fun q hq h=>by
 obtain ⟨fl,σ'⟩:=q
 refine wpAny_call (DQ (O:=NoX) (x0:=[]) (R:=fun r s'=>match r with |.ok (.ret v)=>Q v s' |.ok _=>False |.error e=>E e s') fit hlim hsc hc hG hroom hA st (TV hlen r) ⟨fun sl v hx zz a w=>?_,fun y sl hy zz=>DO hy⟩ hq fun env X' f s' q=>k _ _ ⟨q.x,?_⟩)
 ·obtain ⟨d,rfl⟩:=DO hx
  exact w
 ·cases q.f with
  |next=>cases h; exact rfl
  |brk=>cases h
  |ret r=>cases h; exact Rep.keep ⟨aG.refl _ _,fun a o g n x=>n ⟨x,id⟩⟩ d r
theorem xE {α:Type}{j p:Nm}{y z:α}(h:aD j [(p,y)]=some z):j=p∧z=y:=by
 have h:(bif aC p j then some y else none)=some z:=h
 cases q:aC p j with
 |true=>rw [q] at h; exact ⟨(bH q).symm,(Option.some.inj h).symm⟩
 |false=>rw [q] at h; cases h
theorem aGb (fit:aX T.C D f)(hlim:T.C.hb.NoLimit)(hsc:G.sc=D.sc.names)(hc:fW T)(hG:aY T G){p:Nm}(hpar:D.params=[p]){xs:List PV}{i:Int}{r:List PV}{a:Addr}{σ':Sg}
  (h1:exs G D.body [(p,.iter (some a) xs)]=some (.ret (.int i),σ')) (h2:aD p σ'=some (.iter (some a) r)) (hroom:A.depth<recursionLimit) (hA:∀env,T.P (A.deeper env)) (st:Std T.C X s.heap) (sl:bU T.C X s.heap (.iter none xs) (.ref a)) :
  Tr (model T.prog T.w) A (PySem.call (.ref f) [.ref a]) s (IR T.C X a (.int i) r s):=fun Q E k=>by
 have sl:ItV none X s.heap xs (.ref a):=sl
 cases sl with |mk _ xa hb g oc od e=>
 have it:bU T.C X s.heap (.iter (some a) xs) (.ref a):=show ItV _ _ _ _ _ from .mk (fun c h=>(Option.some.inj h).symm) xa hb g oc od e
 refine wpAny_call (DQ (O:=fun b=>b=a) (x0:=p) (σ:=[(p,.iter (some a) xs)]) (vs:=[.ref a]) (R:=fun r s'=>match r with |.ok (.ret v)=>Q v s' |.ok _=>False |.error e=>E e s') fit hlim hsc hc hG hroom hA st (by rw [hpar]; exact .cons it .nil) ⟨fun sl v hx hv b w=>?_,fun y sl hy n=>absurd (xE hy).1 n⟩ h1 fun env X' f s' q=>k _ _ ?_)
 ·cases (xE hx).2
  rw [hpar] at hv
  cases (xE hv).2
  cases w; rfl
 ·obtain ⟨v',n',q'⟩:=q.e.slot h2
  have q':ItV (some a) X' s'.heap r v':=q'
  cases q' with |mk ht _ hb' g' oc' od' e'=>
  cases ht a rfl
  cases q.f with |ret rv=>
  exact ⟨q.x,rv,show ItV _ _ _ _ _ from .mk nofun xa hb' g' oc' od' e'⟩
end
noncomputable abbrev Cx.as (C:Cx)(me:Value→Prop):Cx:={C with me:=me}
section
variable {C:Cx}{me:Value→Prop}{X:Addr→Prop}{h:Heap}
mutual
theorem Rep.cx {me':Value→Prop}:∀(d:PV) {v:Value},Rep (C.as me) X h d v→Rep (C.as me') X h d v
 |.none,_,r=>r
 |.bool _,_,r=>r
 |.int _,_,r=>r
 |.str _,_,r=>r
 |.bytes _,_,r=>r
 |.list xs,_,r=>LV.map r (fun zz zz n e=>⟨n,e⟩) fun zz=>Reps.cx xs
 |.tuple xs,_,r=>LV.map r (fun zz zz n e=>⟨n,e⟩) fun zz=>Reps.cx xs
 |.inst fs,_,r=>IV.casesOn (motive:=fun v zz=>IV (C.as me') _ h (RepF (C.as me') X h fs) v) r fun x x' ne g oc od on nd r=>.mk x x' ne g oc od on nd (RepF.cx fs r)
theorem Reps.cx {me':Value→Prop}:∀(ds:List PV) {vs:List Value},Reps (C.as me) X h ds vs→Reps (C.as me') X h ds vs
 |[],_,r=>r
 |d::ds,_,r=>lV.casesOn (motive:=fun vs zz=>lV (Rep (C.as me') X h d) (Reps (C.as me') X h ds) vs) r fun p q=>⟨Rep.cx d p,Reps.cx ds q⟩
theorem RepF.cx {me':Value→Prop}:∀(fs:List (List Nat × PV)) {m:PySem.Str→Option Value},RepF (C.as me) X h fs m→RepF (C.as me') X h fs m
 |[],_,r=>r
 |p::fs,m,r=>qE.casesOn (motive:=fun zz=>qE p.1 (Rep (C.as me') X h p.2) (RepF (C.as me') X h fs) m) r fun a b e=>⟨Rep.cx p.2 a,RepF.cx fs b,e⟩
end
end
inductive mG (C:Cx)(D:Df):Prop
 |mk {nm q:PySem.Str} {bs:List Value} {sn:List PySem.Str} {sub:List Value} {col:Option Bool} {dd:Option Addr} {k0 k1 k2 k3 k5:Option Value} {N fI:Addr} {mN:PySem.Str→Option Value}
  (g:C.hb.get? C.cls=some (excClassObj nm q C.cls N bs [.type "object"] true sn sub false col dd k0 k1 k2 k3 k5 "object.__new__")) (hN:C.hb.Ns N mN) (hi:mN "__init__" = some (.ref fI)) (ft:aX C D fI):mG C D
theorem aX.cx {C:Cx}{D:Df}{f:Addr}{me me':Value→Prop}(h:aX (C.as me) D f):aX (C.as me') D f:=by
 cases h with |mk g oc od body sc gl bi clo code args fit=>exact .mk g oc od body sc gl bi clo code args fit
theorem mG.cx {C:Cx}{D:Df}{me me':Value→Prop}(h:mG (C.as me) D):mG (C.as me') D:=by
 cases h with |mk g hN hi ft=>exact .mk g hN hi ft.cx
theorem aGc {n:Nat}{A:Around}{a:Addr}{l:List Value}(h:PB (n+1) A)(env:Env):PB n ((A.under (.builtin "type.__call__" ⟨.ref a::l,[]⟩)).deeper env):=by
 have h1:(Code.builtin "type.__call__" ⟨.ref a::l,[]⟩).weight=1:=rfl
 have h2:(Code.builtin "type.__call__" ⟨.ref a::l,[]⟩).cUnits=1:=rfl
 have h3:(Code.builtin "type.__call__" ⟨.ref a::l,[]⟩).guards=[]:=rfl
 refine ⟨h.handled,?_,?_,?_⟩
 ·simp only [Around.deeper,Around.under,h3]
  exact h.guards
 ·have:=h.units
  simp only [Around.deeper_units,Around.under,h2]
  omega
 ·have:=h.depth
  show A.depth+_+1+10+10*n<recursionLimit
  rw [h1]
  omega
theorem DR {α:Type}{j p q:Nm}{y z a:α}{P:Prop}(h:aD j [(p,y),(q,z)]=some a)(k1:j=p→a=y→P)(k2:j≠p→a=z→P):P:=by
 have h:(bif aC p j then some y else aD j [(q,z)])=some a:=h
 cases e:aC p j with
 |true=>rw [e] at h; exact k1 (bH e).symm (Option.some.inj h).symm
 |false=>
  rw [e] at h
  exact k2 (fun hj=>by rw [hj,fV] at e; cases e) (xE h).2
section
variable {prog:Program}{w:World}{C:Cx}{D:Df}{n:Nat}{G:Gl}{A:Around}{X:Addr→Prop}{s:Shared}{me₀:Value→Prop}
theorem aGd (fit:mG (C.as me₀) D)(hlim:C.hb.NoLimit)(hsc:G.sc=D.sc.names)(hc:∀me,fW ⟨prog,w,C.as me,PB n⟩)(hG:∀me,aY ⟨prog,w,C.as me,PB n⟩ G){ps pw:Nm}(hpar:D.params=[ps,pw]){d:PV}{σ':Sg}{fs:List (List Nat × PV)}
  (h:exs G D.body [(ps,.self []),(pw,.fz d)]=some (.next,σ')) (hs:aD ps σ'=some (.self fs)) {v0:Value} (hA:PB (n+1) A) (st:Std (C.as me₀) X s.heap) (r:Rep (C.as me₀) X s.heap d v0) :
  Tr (model prog w) A (PySem.call (.ref C.cls) [v0]) s (ER (C.as me₀) X s (.v (.inst fs))):=fun Q E k=>by
 cases fit with | @mk nm q bs sn sub col dd k0 k1 k2 k3 k5 N fI mN hC hN hi ft=>
 have ft0:=ft
 cases ft0 with | @mk o fd ho hfc _ _ _ _ _ _ _ _ _=>
 have kb:=st.base
 have bX:=st.bnd
 obtain ⟨h0,g0,d0,t0,os0⟩:=s
 refine wpAny_call_obj_init F.objNew (kb _ _ hC id) (Ns.keepX hN kb id) hi (kb _ _ ho id) hfc fun h' x dx hm=>?_
 have old:∀b o,h0.get? b=some o→b≠x∧b≠dx:=fun b o hb=>⟨fun e=>(by rw [e,hm.newX] at hb; cases hb),fun e=>(by rw [e,hm.newD] at hb; cases hb)⟩
 have kh:aG NoX h0 h':=fun b o hb zz=>hm.keeps b o hb
 obtain ⟨o,g,oc,on,hd⟩:=hm.inst
 have od:=hm.dict o g
 have hnd:dx≠x∧h'.Ns1 dx fun zz=>none:=hd.elim (fun h=>by rw [od] at h; cases h.1) fun ⟨d1,h1,h2,h3⟩=>by cases od.symm.trans h1; exact ⟨h2,h3⟩
 have gd:∃o,h'.get? dx=some o:=let ⟨o,_,_,ho,_⟩:=hnd.2; ⟨o,ho⟩
 have xO:∀b,(b=x∨b=dx)→h0.get? b=none:=fun b h=>h.elim (fun e=>e▸hm.newX) fun e=>e▸hm.newD
 have nB:∀b,(b=x∨b=dx)→C.hb.get? b=none:=fun b h=>by
  cases q:C.hb.get? b with
  |none=>rfl
  |some o=>have:=kb b o q id; rw [xO b h] at this; cases this
 have me:bU (C.as fun v=>v=.ref x) (Or2 X fun b=>b=x∨b=dx) h' (.self []) (.ref x):=⟨rfl,.mk (.inr (.inl rfl)) (.inr (.inr rfl)) hnd.1 g oc od on hnd.2 fun zz=>rfl⟩
 have rd:Rep (C.as fun v=>v=.ref x) (Or2 X fun b=>b=x∨b=dx) h' d v0:=Rep.cx d (Rep.keep ⟨kh.any,fun a o ha nx hx=>hx.elim nx fun h=>by rw [xO a h] at ha; cases ha⟩ d r)
 have st':Std (C.as fun v=>v=.ref x) (Or2 X fun b=>b=x∨b=dx) h':=⟨kb.trans kh,fun b h=>h.elim (st.newB b) (nB b),fun b h=>h.elim (fun h=>(bX b h).elim fun o g=>⟨o,kh b o g id⟩) fun h=>h.elim (fun e=>⟨o,e▸g⟩) fun e=>e▸gd⟩
 have ft':aX (C.as fun v=>v=.ref x) D fI:=ft.cx
 refine wpAny_call (DQ (T:=⟨prog,w,C.as fun v=>v=.ref x,PB n⟩) (X:=Or2 X fun b=>b=x∨b=dx) (O:=fun b=>b=x∨b=dx) (x0:=ps) (σ:=[(ps,.self []),(pw,.fz d)]) (R:=fun v s'=>match v with |.ok (.ret v)=>v=.none∧Q (.ref x) s' |.ok _=>False |.error e=>E e s') ft' hlim hsc (hc _) (hG _)
  ?_ (fun env=>aGc hA env) st' (by rw [hpar]; exact .cons me (.cons rd .nil)) ⟨fun sl v hx hv b w=>?_,fun y sl hy ny=>DR hy (fun e=>absurd e ny) fun zz e=>⟨d,e⟩⟩ h fun env X' f s' q=>?_)
 ·have:=hA.depth
  show A.depth+_<recursionLimit
  have h1:(Code.builtin "type.__call__" ⟨.ref C.cls::[v0],[]⟩).weight=1:=rfl
  rw [h1]
  omega
 ·rw [hpar] at hv
  refine DR hx (fun zz e=>?_) fun n zz=>absurd rfl n
  refine DR (p:=ps) (q:=pw) (y:=Value.ref x) (z:=v0) hv (fun zz e'=>?_) fun n zz=>absurd rfl n
  subst e
  subst e'
  cases w with
  |me=>exact .inl rfl
  |dict g2 e3=>
   cases g.symm.trans g2
   cases od.symm.trans e3
   exact .inr rfl
 ·have x2:=q.x
  have hx2:Ext NoX ⟨h0,g0,d0,t0,os0⟩ s':=⟨fun b o hb zz=>x2.keep b o (kh b o hb id) fun h=>h.elim (old b o hb).1 (old b o hb).2,x2.os,x2.gens⟩
  cases hf:q.f
  refine ⟨rfl,k _ _ ⟨hx2,?_⟩⟩
  obtain ⟨V,sv⟩:=q.e.slots
  have ok:=sv.ok _ _ hs
  have nB:=sv.noB _ _ hs
  have hv:V ps=.ref x:=ok.1
  have iv:IV (C.as fun v=>v=.ref x) X' s'.heap (RepF (C.as fun v=>v=.ref x) X' s'.heap fs) (V ps):=ok.2
  rw [hv] at iv nB
  have newX:∀b,(b=x∨b=dx)→¬ X b:=fun b h hx=>(bX b hx).elim fun o g=>by rw [xO b h] at g; cases g
  have avoid:∀b,aT s'.heap (.self fs) (.ref x) b→¬ X b:=fun b w hx=>nB b w ⟨.inl hx,fun h=>newX b h hx⟩
  cases iv with |mk xa xd ne2 g2 oc2 od2 on2 nd2 rf=>
  exact show IV _ _ _ _ _ from .mk (avoid _ .me) (avoid _ (.dict g2 od2)) ne2 g2 oc2 od2 on2 nd2 (RepF.cx fs (RepF.keep ⟨aG.refl _ _,fun b o g n hx=>n (q.g b (.inl hx))⟩ fs rf))
end
structure eK (A:Around):Prop where
 handled:A.handled=none
 guards:A.guards=some []
 units:A.units+150<cLine
theorem PB.leaf {n:Nat}{A:Around}(h:PB n A):eK A:=⟨h.handled,h.guards,by have:=h.units; omega⟩
theorem PB.leafDown {n:Nat}{A:Around}(h:PB n A)(env:Env):eK (A.deeper env):=⟨h.handled,h.guards,by have:=h.units; rw [Around.deeper_units]; omega⟩
noncomputable def jI:Nm→List PV→Option PV:=fun zz zz=>none
noncomputable def tU (T:Tx):Tx:={T with icall:=fun zz zz=>none}
inductive DS (C:Cx)(T:Tx)(f:Nm)(xs:List PV)(d:PV)(r:List PV):Prop
 |mk {D:Df} {fA:Addr} {p:Nm} {i:Int} (e:d=.int i) (hp:D.params=[p]) (hg:C.gm (mkS f)=some (.ref fA)) (fit:aX C D fA)
  (h:∀a:Nat,∃σ',exs (fK (tU T) jI jI D) D.body [(p,.iter (some a) xs)]=some (.ret (.int i),σ')∧aD p σ'=some (.iter (some a) r)):DS C T f xs d r
structure UA (prog:Program)(w:World)(C:Cx)(T:Tx):Prop where
 hlim:C.hb.NoLimit
 leaf:∀me D,aY ⟨prog,w,C.as me,eK⟩ (fK (tU T) jI jI D)
 icall:∀me f xs d r,T.icall f xs=some (d,r)→DS (C.as me) T f xs d r
 dfs:∀me f D,aD f T.dfs=some D→aC f T.cls=false→∃fA:Addr,C.gm (mkS f)=some (.ref fA)∧aX (C.as me) D fA
 cls:∀me D,aD qC T.meths=some D→C.gm (mkS T.cls)=some (.ref C.cls)∧mG (C.as me) D
 meths:∀me m D,aD m T.meths=some D→∃f:Addr,aX (C.as me) D f∧∀A s x mA pl Q E,eK A→aG NoX C.hb s.heap→s.heap.Inst x C.cls mA→mA (mkS m)=none→Q (.ref f,[.ref x]) s→wpAny (model prog w) A (getMethod (.ref x) (mkS m) pl) Q E s
theorem dQ.imp {C:Cx}{x:Nm}{R R':Value→Prop}(g:dQ C x R)(h:∀v,R v→R' v):dQ C x R':=by
 cases g with |mk g r=>exact .mk g (h _ r)
section
variable {prog:Program}{w:World}{C:Cx}{P:Around→Prop}{T:Tx}
theorem DT (hP:∀A,P A→eK A):fW ⟨prog,w,C,P⟩:=RB fun A hA=>Nat.lt_of_le_of_lt (Nat.add_le_add_left (by decide) _) (hP A hA).units
theorem nV (hP:∀A,P A→eK A){A:Around}{X:Addr→Prop}{s:Shared}(a:At ⟨prog,w,C,P⟩ A X s):At ⟨prog,w,C,eK⟩ A X s:=⟨hP A a.pa,a.base,a.newB,a.bnd⟩
theorem UB {D D':Df}{call meth:Nm→List PV→Option PV}(hP:∀A,P A→eK A)(hb:aY ⟨prog,w,C,eK⟩ (fK (tU T) jI jI D))
  (hi:∀f xs d r,T.icall f xs=some (d,r)→dQ C f (CF ⟨prog,w,C,P⟩ xs d r)) (hc:∀f args d,call f args=some d→dQ C f (wN ⟨prog,w,C,P⟩ args d)) (hm:∀m args d,meth m args=some d→∃f:Addr,RC ⟨prog,w,C,P⟩ m args d f) :
  aY ⟨prog,w,C,P⟩ (fK T call meth D') where
 gns:=hb.gns
 bns:=hb.bns
 const:=hb.const
 tab t d x h:=(hb.tab t d x h).imp fun v r A X s dv a=>r A X s dv (nV hP a)
 inSet t d b h:=(hb.inSet t d b h).imp fun v r A X s dv a=>r A X s dv (nV hP a)
 cattr c a d h:=(hb.cattr c a d h).imp fun v r A X s a=>r A X s (nV hP a)
 fld a h A X s x mA v at_:=hb.fld a h A X s x mA v (nV hP at_)
 sto a h A X s x mA ns v at_:=hb.sto a h A X s x mA ns v (nV hP at_)
 tget t k r h:=(hb.tget t k r h).imp fun v q=>q.imp fun a q=>⟨q.1,q.2.obj,fun A X s kv at_=>q.2.one A X s kv (nV hP at_),fun A X s kv d dv at_=>q.2.two A X s kv d dv (nV hP at_)⟩
 bud A hA:=hb.bud A (hP A hA)
 bname:=hb.bname
 bval:=hb.bval
 icall:=hi
 call:=hc
 meth:=hm
theorem UC {n:Nat}{me:Value→Prop}{D:Df}{G:Gl}{f:Addr}{args:List PV}{d:PV}(hlim:C.hb.NoLimit)(fit:aX (C.as me) D f)(hsc:G.sc=D.sc.names)(hG:aY ⟨prog,w,C.as me,PB n⟩ G)(hlen:(D.params.length==args.length)=true)(h:dH (exs G D.body (dB D.params args))=some d):
  wN ⟨prog,w,C.as me,PB (n+1)⟩ args d (.ref f):=
 ⟨fun A s k=>TZ (T:=⟨prog,w,C.as me,eK⟩) fit A s k,fun A X s vs a r=>aGa (T:=⟨prog,w,C.as me,PB n⟩) fit hlim hsc (DT fun zz h=>h.leaf) hG hlen h a.pa.room (fun env=>a.pa.down) ⟨a.base,a.newB,a.bnd⟩ r⟩
theorem aGe {D:Df}{me:Value→Prop}(fit:mG (C.as me) D)(A:Around)(s:Shared)(k:aG NoX C.hb s.heap):iH (model prog w) A (.ref C.cls) s:=fun Q E h=>by
 cases fit with |mk hC hN hi ft=>
 obtain ⟨h0,g0,d0,t0,os0⟩:=s
 exact wpAny_keeperOf_exc (k _ _ hC id) (h _)
theorem aGf (ok:UA prog w C T)(n:Nat):∀(me:Value→Prop) (D:Df),aY ⟨prog,w,C.as me,PB n⟩ (fK T (eJ T n).call (eJ T n).meth D):=by
 have hi:∀(n:Nat) (me:Value→Prop) f xs d r,T.icall f xs=some (d,r)→dQ (C.as me) f (CF ⟨prog,w,C.as me,PB n⟩ xs d r):=fun n me f xs d r h=>by
  cases ok.icall me f xs d r h with | @mk D fA p i e hp hg fit hx=>
  subst e
  refine .mk (.g hg) ⟨fun A s k=>TZ (T:=⟨prog,w,C.as me,eK⟩) fit A s k,fun A X s a at_ sl=>?_⟩
  obtain ⟨σ',h1,h2⟩:=hx a
  exact aGb (T:=⟨prog,w,C.as me,eK⟩) fit ok.hlim rfl (DT fun zz h=>h) (ok.leaf me D) hp h1 h2 at_.pa.room at_.pa.leafDown ⟨at_.base,at_.newB,at_.bnd⟩ sl
 induction n with
 |zero=>exact fun me D=>UB (fun zz h=>h.leaf) (ok.leaf me D) (hi 0 me) (fun zz zz zz h=>no h) fun zz zz zz h=>no h
 |succ n ih=>
  intro me D
  refine UB (fun zz h=>h.leaf) (ok.leaf me D) (hi _ me) (fun f args d h=>?_) fun m args d h=>?_
  ·have h:(bif aC f T.cls then QK (fK T (eJ T n).call (eJ T n).meth) (aD qC T.meths) args else tF (fK T (eJ T n).call (eJ T n).meth) (aD f T.dfs) args)=some d:=h
   cases hf:aC f T.cls with
   |true=>
    rw [hf] at h
    cases bH hf
    refine aB h fun D1 hD h=>aB h fun a ha h=>aB h fun p hp h=>aB h fun q hq h=>?_
    obtain ⟨fl,σ'⟩:=q
    cases fl with
    |next=>
     cases hs:(aD p.1 σ').bind nC with
     |none=>rw [show (Fl.casesOn (motive:=fun zz=>Option PV) Fl.next (((aD p.1 σ').bind nC).map .inst) none fun zz=>none)=((aD p.1 σ').bind nC).map .inst from rfl,hs] at h; cases h
     |some fs=>
      rw [show (Fl.casesOn (motive:=fun zz=>Option PV) Fl.next (((aD p.1 σ').bind nC).map .inst) none fun zz=>none)=((aD p.1 σ').bind nC).map .inst from rfl,hs] at h
      cases h
      have hl:aD p.1 σ'=some (.self fs):=aB hs fun sl hl h=>by
       cases sl with
       |self fs'=>exact Option.some.inj h▸hl
       |_=>exact no h
      have hpar:=DF hp
      obtain ⟨hg,fit⟩:=ok.cls me D1 hD
      refine .mk (.g hg) ⟨fun A s k=>aGe fit A s k,fun A X s vs at_ r=>?_⟩
      cases args with
      |nil=>exact no ha
      |cons d args=>cases args with
       |cons _ _=>exact no ha
       |nil=>
        cases ha
        cases r with |mk r1 r=>
        cases r
        exact aGd fit ok.hlim rfl (fun zz=>DT fun zz h=>h.leaf) (fun me'=>ih me' D1) hpar hq hl at_.pa ⟨at_.base,at_.newB,at_.bnd⟩ r1
    |_=>exact no h
   |false=>
    rw [hf] at h
    refine aB h fun D1 hD h=>oif h fun hlen h=>?_
    obtain ⟨fA,hg,fit⟩:=ok.dfs me f D1 hD hf
    exact .mk (.g hg) (UC ok.hlim fit rfl (ih me D1) hlen h)
  ·refine aB (show tF (fK T (eJ T n).call (eJ T n).meth) (aD m T.meths) args=some d from h) fun D1 hD h=>oif h fun hlen h=>?_
   obtain ⟨fA,fit,hget⟩:=ok.meths me m D1 hD
   exact ⟨fA,UC ok.hlim fit rfl (ih me D1) hlen h,fun A X s x mA pl Q E at_=>hget A s x mA pl Q E at_.pa.leaf at_.base⟩
end
end Mine.V
namespace Mine.V
open PySem PySem.W PyProof.Rows
noncomputable abbrev eL:Program:=PySem.Challenge.pw_sr0089_01
noncomputable def UD:Nm:=nm "OP"
noncomputable def UE:Nm:=nm "NT_OFFSET"
noncomputable def aGg:Nm:=nm "ENDMARKER"
noncomputable def UF:Nm:=nm "_parse_varint"
noncomputable def xF (x:Nm):List Stmt→List (Option Expr × Expr)
 |[]=>[]
 |.Assign [.Name y _] (.Dict ks vs _) _::r=>bif aC (nm y) x then ks.zip vs else xF x r
 |_::r=>xF x r
noncomputable def DU (x:Nm):List Stmt→Option Int
 |[]=>none
 |.Assign [.Name y _] (.Constant (.int i) _ _) _::r=>bif aC (nm y) x then some i else DU x r
 |_::r=>DU x r
noncomputable def qX (i:Int):List (Option Expr × Expr)→Option (List Nat)
 |(some (.Constant (.int k) _ _),.Constant (.str s) _ _)::r=>bif k==i then some s.cps.toList else qX i r
 |_=>none
noncomputable def jX (s:List Nat):List (Option Expr × Expr)→Option Int
 |(some (.Constant (.str k) _ _),.Name x _)::r=>bif aC k.cps.toList s then DU (nm x) eL.main.body else jX s r
 |_=>none
noncomputable def xG (i:Int):Option (Option (List Nat)):=match i with
 |.ofNat c=>bif decide (119808≤c) then (bif decide ((c-119808)%52<26) && [0,1,2,4,7,8,9,10,11,12].any (((c-119808) / 52)==·) then some (some [97+(c-119808)%52]) else none)
  else bif decide (c<128) then some none else none
 |_=>none
noncomputable def flD:List (Option Expr × Expr):=xF AW eL.main.body
noncomputable def exD:List (Option Expr × Expr):=xF vK eL.main.body
noncomputable def aGh (t:Nm):PV→Option (Option PV)
 |.int i=>bif aC t AU then (xG i).map (fun o=>o.map .str) else bif aC t AW then some ((qX i flD).map .str) else none
 |.str s=>bif aC t vK then some ((jX s exD).map .int) else none
 |_=>none
noncomputable def b1L:List Int:=[173,847,6150,6155,6156,6157,8203,8204,8205,8288,65279]
noncomputable def eB (i:Int):Bool:=b1L.any (i==·) || (decide (65024≤i) && decide (i<65040))
noncomputable def vGo:Nat→Int→Int→List PV→Option (PV × List PV)
 |0,_,_,_=>none
 |n+1,val,b,l=>bif Builtin.bitAnd b 64==0 then some (.int val,l) else match l with
  |.int c::r=>bif decide (val.natAbs<2 ^ 64) then vGo n (Builtin.bitOr (val*64) (Builtin.bitAnd c 63)) c r else none
  |_=>none
noncomputable def tV:List PV→Option (PV × List PV)
 |.int b::r=>vGo 200 (Builtin.bitAnd b 63) b r
 |_=>none
noncomputable def T2:Tx:=
 {dfs:=vZ eL.main.body,cls:=fR,meths:=(aD fR (BS eL.main.body)).getD [],
  const:=fun x=>bif aC x UE then some (.int 256) else bif aC x UD then some (.int 55) else bif aC x aGg then some (.int 0) else none
  cattr:=fun c a=>bif aC c fR then (bif aC a n_S then some (.str [32]) else bif aC a n_T then some (.str [9]) else none) else none
  table:=aGh
  inSet:=fun s d=>match d with
   |.int i=>bif aC s AV then some (eB i) else none
   |_=>none
  fld:=fun x=>gH x [nm "raw",nm "n",nm "nt",nm "norm",nm "is_simple"]
  icall:=fun f xs=>bif aC f UF then tV xs else none
  fuel:=200}
noncomputable abbrev O (n:Nat):QI:=eJ T2 n
noncomputable def df (f:Nm):Df:=match aD f T2.dfs with
 |some D=>D
 |none=>⟨default,[],[],[]⟩
noncomputable def mdf (f:Nm):Df:=match aD f T2.meths with
 |some D=>D
 |none=>⟨default,[],[],[]⟩
noncomputable abbrev GD (c m:Nm→List PV→Option PV)(D:Df):Gl:=fK T2 c m D
noncomputable def mrg (s c:Nm→List PV→Option PV):Nm→List PV→Option PV:=fun f a=>match s f a with
 |some d=>some d
 |none=>c f a
theorem aGi {s c:Nm→List PV→Option PV}(h:∀f a d,s f a=some d→c f a=some d):mrg s c=c:=by
 funext f a
 unfold mrg
 cases e:s f a with
 |none=>rfl
 |some d=>exact (h f a d e).symm
theorem mH {α:Type}{l:List α}{x:α}(k:Nat)(h:x∈l):x∈l.take k∨x∈l.drop k:=List.mem_append.mp (by rw [List.take_append_drop]; exact h)
theorem gQ {n:Nat}{f:Nm}{D:Df}{args:List PV}{d:PV}(hf:aC f T2.cls=false)(hl:aD f T2.dfs=some D)(hn:(D.params.length==args.length)=true)
  (h:dH (exs (GD (O n).call (O n).meth D) D.body (dB D.params args))=some d):(O (n+1)).call f args=some d:=by
 show (bif aC f T2.cls then _ else tF _ (aD f T2.dfs) args)=_
 rw [hf,hl]
 show (bif D.params.length==args.length then _ else _)=_
 rw [hn]
 exact h
noncomputable def qY:Nm:=nm "_law_lead"
noncomputable def DV:Nm:=nm "_law_columns"
noncomputable def mI:Nm:=nm "_law_ups"
noncomputable def DW:Nm:=nm "_law_unseen"
noncomputable def DX:Nm:=nm "_law_operator"
noncomputable def DY:Nm:=nm "_law_spelled"
noncomputable def nW:Nm:=nm "_law_page"
noncomputable def qZ:Nm:=nm "_law_octets"
noncomputable def rA:Nm:=nm "_law_read"
noncomputable def rB:Nm:=nm "_law_words"
noncomputable def jY:Nm:=nm "law"
noncomputable def mJ:Nm:=nm "pretty_flags"
noncomputable def UG:Nm:=nm "in_table_b1"
noncomputable def UH:Nm:=nm "ISEOF"
noncomputable def UI:Nm:=nm "ISTERMINAL"
noncomputable def UJ:Nm:=nm "ISNONTERMINAL"
noncomputable abbrev jJ (o:Option EV)(σ:Sg):Rs:=tE o σ
noncomputable abbrev DZ (o:Rs)(k:Sg→Rs):Rs:=nK o k
noncomputable def tW (o:Option EV)(σ:Sg):Option PV:=dH (DZ (jJ o σ) fun σ=>some (.next,σ))
theorem EA {α:Type}{xs:List α}{i:Int}{x:α}(h0:0≤i)(h1:i≤16777216)(h:xs[i.toNat]?=some x):atI xs i=some x:=by
 unfold atI
 have a:decide (i.natAbs≤16777216)=true:=decide_eq_true (by have:=Int.natAbs_of_nonneg h0; exact Int.ofNat_le.mp (this▸h1))
 have b:decide (0≤i)=true:=decide_eq_true h0
 rw [a,b]
 exact h
theorem eS (x:Int){k:Int}(h:0<k):0≤x.fmod k∧x.fmod k<k:=⟨Int.fmod_nonneg_of_pos x h,Int.fmod_lt_of_pos x h⟩
theorem rC (d:Int){k:Int}(h:0<k):∃n:Nat,(n:Int)<k∧d.fmod k=n:=by
 obtain ⟨a,b⟩:=eS d h
 obtain ⟨n,e⟩:=Int.eq_ofNat_of_zero_le a
 exact ⟨n,e▸b,e⟩
theorem UK {xs:List Int}{d k:Int}(h:0<k)(hk:k≤16777216)(hl:xs.length=k.toNat):atI (xs.map PV.int) (d.fmod k)=some (.int (xs.getD (d.fmod k).toNat 0)):=by
 obtain ⟨a,b⟩:=eS d h
 have hlt:(d.fmod k).toNat<xs.length:=by rw [hl]; exact (Int.toNat_lt a).mpr (by rw [Int.toNat_of_nonneg (Int.le_of_lt h)]; exact b)
 refine EA a (Int.le_trans (Int.le_of_lt b) hk) ?_
 rw [List.getElem?_map,List.getElem?_eq_getElem hlt]
 simp [List.getD,List.getElem?_eq_getElem hlt]
noncomputable def unT:List Int:=b1L++(List.range 16).map fun (k:Nat)=>(65024+k:Int)
noncomputable def unS (d:Int):Int:=unT.getD (d.fmod 27).toNat 0
theorem aGj (n:Nat)(d:Int):(O (n+1)).call DW [.int d]=some (.int (unS d)):=by
 have h:(O (n+1)).call DW [.int d]=tW ((atI (unT.map PV.int) (d.fmod 27)).map .v) [(nm "d",.fz (.int d))]:=by kernel_rfl
 rw [h,UK (by decide) (by decide) (by decide +kernel)]
 rfl
noncomputable def opT:List (List Nat):=["(", ")", "[", "]", ":", ",", ";", "+", "-", "*", "/", "|", "&", "<", ">", "=", ".", "%", "{", "}", "==", "!=", "<=", ">=", "~", "^", "<<", ">>", "**", "+=", "-=", "*=", "/=", "%=", "&=", "|=", "^=", "<<=", ">>=", "**=", "//", "//=", "@", "@=", "->", "...", ":=", "!"].map fun s=>nm (PySem.Str.ofString s)
noncomputable def opS (d:Int):List Nat:=opT.getD (d.fmod 48).toNat []
theorem aGk (n:Nat)(d:Int):(O (n+1)).call DX [.int d]=some (.str (opS d)):=by
 have h:(O (n+1)).call DX [.int d]=tW ((atI (opT.map PV.str) (d.fmod 48)).map .v) [(nm "d",.fz (.int d))]:=by kernel_rfl
 obtain ⟨a,b⟩:=eS d (k:=48) (by decide)
 have hlt:(d.fmod 48).toNat<opT.length:=by rw [show opT.length=48 by rfl]; omega
 have h2:atI (opT.map PV.str) (d.fmod 48)=some (.str (opS d)):=by
  refine EA a (by exact Int.le_of_lt (Int.lt_of_lt_of_le b (by decide))) ?_
  rw [List.getElem?_map,List.getElem?_eq_getElem hlt]
  simp [opS,List.getD,List.getElem?_eq_getElem hlt]
 rw [h,h2]
 rfl
noncomputable def spT:List Int:=[97,65]++[0,1,2,4,7,8,9,10,11,12].map fun k=>119808+52*k
noncomputable def spS (l d:Int):Int:=spT.getD (d.fmod 12).toNat 0+l
theorem aGl (n:Nat)(l d:Int):(O (n+1)).call DY [.int l,.int d]=some (.int (spS l d)):=by
 have h:(O (n+1)).call DY [.int l,.int d]=tW (BI .Add ((atI (spT.map PV.int) (d.fmod 12)).map EV.v) (some (EV.v (.int l)))) [(nm "letter",.fz (.int l)),(nm "d",.fz (.int d)),(nm "starts",.fz (.list (spT.map PV.int)))]:=by kernel_rfl
 rw [h,UK (by decide) (by decide) (by decide)]
 rfl
theorem aGm (n:Nat)(x:Int):(O (n+1)).call UH [.int x]=some (.bool (x==0)):=by kernel_rfl
theorem aGn (n:Nat)(x:Int):(O (n+1)).call UI [.int x]=some (.bool (decide (x<256))):=by kernel_rfl
theorem aGo (n:Nat)(x:Int):(O (n+1)).call UJ [.int x]=some (.bool (decide (x≥256))):=by kernel_rfl
theorem aGp (n:Nat)(c:Nat):(O (n+1)).call UG [.str [c]]=some (.bool (eB c)):=by kernel_rfl
noncomputable def sp1 (f:Nm)(l:List PV):Option PV:=List.casesOn (motive:=fun zz=>Option PV) l none fun a r=>List.casesOn (motive:=fun zz=>Option PV) r
 (PV.casesOn (motive_1:=fun zz=>Option PV) a none (fun zz=>none) (fun d=>bif aC f DW then some (.int (unS d)) else bif aC f DX then some (.str (opS d)) else bif aC f UH then some (.bool (d==0))
  else bif aC f UI then some (.bool (decide (d<256))) else bif aC f UJ then some (.bool (decide (d≥256))) else none) (fun s=>List.casesOn (motive:=fun zz=>Option PV) s none fun c t=>bif bP t && aC f UG then some (.bool (eB c)) else none) (fun zz=>none) (fun zz=>none) (fun zz=>none) fun zz=>none)
 fun b r=>bif bP r then (asI a).bind fun l=>(asI b).bind fun d=>bif aC f DY then some (.int (spS l d)) else none else none
theorem oA {a b:Nm}(h:aC a b=true):a=b:=by
 induction a generalizing b with
 |nil=>cases b <;> first |rfl |cases h
 |cons x a ih=>
  cases b with
  |nil=>cases h
  |cons y b=>
   have h:(x==y && aC a b)=true:=h
   simp only [Bool.and_eq_true,beq_iff_eq] at h
   rw [h.1,ih h.2]
theorem oB {α:Type}{c:Bool}{a:Option α}{b:Option α}{d:α}(h:(bif c then a else b)=some d):(c=true∧a=some d)∨(c=false∧b=some d):=by
 cases c
 ·exact .inr ⟨rfl,h⟩
 ·exact .inl ⟨rfl,h⟩
theorem aGq (n:Nat):∀f a d,sp1 f a=some d→(O (n+1)).call f a=some d:=by
 intro f a d h
 cases a with
 |nil=>cases h
 |cons a r=>cases r with
  |nil=>cases a with
   |int x=>
    rcases oB h with ⟨e,h⟩ |⟨_,h⟩
    ·rw [oA e,aGj]; exact h
    rcases oB h with ⟨e,h⟩ |⟨_,h⟩
    ·rw [oA e,aGk]; exact h
    rcases oB h with ⟨e,h⟩ |⟨_,h⟩
    ·rw [oA e,aGm]; exact h
    rcases oB h with ⟨e,h⟩ |⟨_,h⟩
    ·rw [oA e,aGn]; exact h
    rcases oB h with ⟨e,h⟩ |⟨_,h⟩
    ·rw [oA e,aGo]; exact h
    cases h
   |str t=>cases t with
    |nil=>cases h
    |cons c t=>
     rcases oB h with ⟨e,g⟩ |⟨_,g⟩
     ·cases t with
      |nil=>rw [oA e,aGp]; exact g
      |cons=>cases e
     cases g
   |_=>cases h
  |cons b r=>cases r with
   |cons=>cases h
   |nil=>cases a with
    |int x=>cases b with
     |int y=>
      rcases oB h with ⟨e,h⟩ |⟨_,h⟩
      ·rw [oA e,aGl]; exact h
      cases h
     |_=>cases h
    |_=>cases h
noncomputable def hdS:List S→S
 |s::_=>s
 |[]=>.pass default
noncomputable def tlS:List S→List S
 |_::r=>r
 |[]=>[]
noncomputable def stm (b:List S):Nat→S
 |0=>hdS b
 |n+1=>stm (tlS b) n
noncomputable def bM (b:List S):Nat→List S
 |0=>b
 |n+1=>bM (tlS b) n
noncomputable def itE:It→E
 |.val e=>e
 |.range _ es p=>.list es p
 |.zip _ es p=>.list es p
noncomputable def aJ:S→E
 |.set _ _ e _=>e
 |.many _ _ _ e _=>e
 |.tup _ _ _ e _=>e
 |.attr _ _ _ _ e _=>e
 |.item _ _ _ _ e _=>e
 |.augN _ _ _ e _=>e
 |.augI2 _ _ _ _ _ _ _ e _=>e
 |.app _ _ _ e _ _=>e
 |.ret e _=>e
 |.for _ it _ _ _=>itE it
 |.ife t _ _ _=>t
 |.whl t _ _ _=>t
 |_=>.const .none 0 default
noncomputable def cD:S→List S
 |.for _ _ b _ _=>b
 |.ife _ b _ _=>b
 |.whl _ b _ _=>b
 |_=>[]
noncomputable def bN:S→List S
 |.for _ _ _ b _=>b
 |.ife _ _ b _=>b
 |.whl _ _ b _=>b
 |_=>[]
noncomputable def bI:S→Tg
 |.for t _ _ _ _=>t
 |.tup xs k p _ _=>.tup xs k p
 |.set x p _ _=>.nm x p
 |_=>.nm [] default
noncomputable def gnE:Gn→E
 |.mk _ it _=>itE it
noncomputable def aGr:E→List E
 |.callB _ _ es _=>es
 |.callD _ _ es _=>es
 |.lrange _ _ es _ _=>es
 |.meth _ _ _ es _=>es
 |.get _ _ _ es _=>es
 |.list es _=>es
 |.tup es _ _=>es
 |.cmp l _ cs _=>l::cs
 |.inS l _ _ _=>[l]
 |.bin l _ r _=>[l,r]
 |.comp e g gs _ _=>e::gnE g::gs.map gnE
 |.sub o i _=>[o,i]
 |.bool _ es _=>es
 |.neg e _=>[e]
 |.not e _=>[e]
 |.ite t a b _=>[t,a,b]
 |_=>[]
noncomputable def kid (i:Nat)(e:E):E:=match (aGr e)[i]? with
 |some e=>e
 |none=>e
noncomputable def scE:E→List (PySem.Str × NameKind)
 |.comp _ _ _ sc _=>sc.names
 |_=>[]
noncomputable def eC (G:Gl)(x:Nm)(e:E)(σ:Sg)(o:Option EV):Rs:=dA (o.bind fun d=>QE G x e d σ)
noncomputable def aH {α β:Type}:List α→(α→β)→List β
 |[],_=>[]
 |x::r,f=>f x::aH r f
theorem aGs {α β:Type}(x:α)(r:List α)(f:α→β):aH (x::r) f=f x::aH r f:=rfl
theorem EB {α β:Type}(f:α→β):∀l:List α,aH l f=l.map f
 |[]=>rfl
 |x::r=>by rw [aGs,EB f r]; rfl
theorem cX {α:Type}{m i:Nat}{f g:Nat→α}(h:(List.range m).map f=aH (List.range m) g)(hi:i<m):f i=g i:=by
 rw [EB] at h
 have:=congrArg (·[i]?) h
 simpa [List.getElem?_map,List.getElem?_range hi] using this
theorem bA {α β:Type}{l:List β}{f g:β→α}(h:l.map f=aH l g){x:β}(hx:x∈l):f x=g x:=List.map_inj_left.mp (h.trans (EB g l)) x hx
theorem oC {α:Type}{m i:Nat}{f g:Nat→α}(h:(List.range m).map f=(List.range m).map g)(hi:i<m):f i=g i:=by
 have:=congrArg (·[i]?) h
 simpa [List.getElem?_map,List.getElem?_range hi] using this
noncomputable def leB (n:Nat):List S:=(df qY).body
noncomputable def leG (n:Nat):Gl:=GD (O n).call (O n).meth (df qY)
noncomputable def xH (c:Nat)(k:Int):Option EV:=(AX .Mult (.str [c]) (.int k)).map .v
noncomputable abbrev cM (op:Operator)(a b:Option EV):Option EV:=BI op a b
noncomputable def aGt (a b c d:Int):Option EV:=cM .Add (cM .Add (cM .Add (xH 32 a) (xH 9 b)) (xH 32 c)) (xH 9 d)
noncomputable def UL (n:Nat)(x a b c d:Int):Option PV:=dH (DZ (eC (leG n) (nm "lead") (aJ (stm (leB n) 0)) [(nm "x",.fz (.int x))] (aGt a b c d)) (exs (leG n) (bM (leB n) 1)))
noncomputable def EC (r:Nat):List Nat:=
 let l:=rep (r%3) [32]++rep (r / 3%2) [9]++rep (r / 6%3) [32]++rep (r / 18%2) [9]
 bif aC l [] then [32] else l
theorem aGu (n:Nat)(x:Int):(O (n+1)).call qY [.int x]=UL n x (x.fmod 3) ((x.fdiv 3).fmod 2) ((x.fdiv 6).fmod 3) ((x.fdiv 18).fmod 2):=by kernel_rfl
theorem aGv (n:Nat)(x:Int):(List.range 36).map (fun r=>UL n x (r%3:Nat) (r / 3%2:Nat) (r / 6%3:Nat) (r / 18%2:Nat))=(List.range 36).map fun r=>some (.str (EC r)):=by kernel_rfl
noncomputable def r36 (x:Int):Nat:=(x.fmod 36).toNat
theorem ED (x:Int):r36 x<36:=by have:=eS x (k:=36) (by decide); unfold r36; omega
theorem dm (x m k j:Int)(hm:m≠0):x%(m*(k*j)) / m%k=x / m%k:=by
 rw [Int.emod_def x (m*(k*j))]
 generalize x / (m*(k*j))=q
 rw [Int.mul_assoc m,Int.sub_eq_add_neg,←Int.mul_neg,Int.add_mul_ediv_left _ _ hm,Int.mul_assoc k,←Int.mul_neg,Int.add_mul_emod_self_left]
theorem xJ (x:Int)(m k j:Nat)(hm:(m:Int)≠0)(h:(m:Int)*(k*j)=36):(x.fdiv m).fmod k=((r36 x / m%k:Nat):Int):=by
 have e:(r36 x:Int)=x%36:=by
  unfold r36
  rw [Int.fmod_eq_emod_of_nonneg _ (by decide)]
  exact Int.toNat_of_nonneg (Int.emod_nonneg _ (by decide))
 rw [Int.fdiv_eq_ediv_of_nonneg _ (Int.natCast_nonneg m),Int.fmod_eq_emod_of_nonneg _ (Int.natCast_nonneg k),←dm x m k j hm,h,←e]
 rfl
theorem aGw (n:Nat)(x:Int):(O (n+1)).call qY [.int x]=some (.str (EC (r36 x))):=by
 have h:=oC (aGv n x) (ED x)
 have a1:=xJ x 1 3 12 (by decide) rfl
 rw [Nat.div_one,show x.fdiv ((1:Nat):Int)=x from Int.fdiv_one x] at a1
 rw [aGu,show x.fmod 3=_ from a1,show (x.fdiv 3).fmod 2=_ from xJ x 3 2 6 (by decide) rfl,show (x.fdiv 6).fmod 3=_ from xJ x 6 3 2 (by decide) rfl,show (x.fdiv 18).fmod 2=_ from xJ x 18 2 1 (by decide) rfl]
 exact h
noncomputable def ld:Nat→List Nat
 |0=>[]
 |r+1=>EC r
noncomputable def aGx (s:List Nat):List Int:=s.foldl (fun t c=>(List.range 5).map fun k=>t.getD k 0+(bif c==9 then k+1-(t.getD k 0)%(k+1) else 1)) [0,0,0,0,0]
noncomputable def cI (r k:Nat):Int:=(aGx (ld r)).getD k 0
noncomputable def oD (c:Nat→Int):PV:=.list [.int (c 0),.int (c 1),.int (c 2),.int (c 3),.int (c 4)]
theorem aGy (n:Nat):(List.range 37).map (fun r=>(O (n+1)).call DV [.str (ld r)])=(List.range 37).map fun r=>some (oD (cI r)):=by kernel_rfl
noncomputable def cR (o:Option PV):Option (List PV):=nG (o.map EV.v)
noncomputable def aM {α:Type}(f:Nat→α):List α:=[f 0,f 1,f 2,f 3,f 4,f 5]
theorem aGz (n:Nat){r:Nat}(h:r<37):(O (n+1)).call DV [.str (ld r)]=some (oD (cI r)):=oC (aGy n) h
noncomputable def gR:Int→List Int→Int
 |m,[]=>m
 |m,x::r=>gR (bif decide (m<x) then x else m) r
noncomputable def EE:List S→Bool
 |_::_=>true
 |[]=>false
theorem aL {G:Gl}{σ σ':Sg}:∀(i:Nat) {b:List S},EE (bM b i)=true→ex G (stm b i) σ=some (.next,σ')→exs G (bM b i) σ=exs G (bM b (i+1)) σ'
 |0,s::r,_,h=>by
  have h:ex G s σ=some (.next,σ'):=h
  show nK (ex G s σ) (exs G r)=exs G r σ'
  rw [h]; rfl
 |i+1,b,hc,h=>aL i (b:=tlS b) hc h
theorem UM {G:Gl}{σ:Sg}{r:Rs}:∀(i:Nat) {b:List S},EE (bM b i)=true→ex G (stm b i) σ=r→(∀σ',r≠some (.next,σ'))→exs G (bM b i) σ=r
 |0,s::l,_,h,hn=>by
  have h:ex G s σ=r:=h
  show nK (ex G s σ) (exs G l)=r
  rw [h]
  cases r with
  |none=>rfl
  |some q=>
   obtain ⟨f,σ₂⟩:=q
   cases f with
   |next=>exact absurd rfl (hn _)
   |_=>rfl
 |i+1,b,hc,h,hn=>UM i (b:=tlS b) hc h hn
theorem mK {G:Gl}{σ σ':Sg}{d:PV}(i:Nat){b:List S}(hc:EE (bM b i)=true)(h:ex G (stm b i) σ=some (.ret d,σ')):exs G (bM b i) σ=some (.ret d,σ'):=UM i hc h fun zz e=>by cases e
theorem gV {n:Nat}(h:n≤16777216):bG n=true:=decide_eq_true h
noncomputable def rD (S:List PV)(o:Option EV)(f:List PV→Sg):Rs:=dA ((bB o).bind fun b=>(asL b).bind fun ys=>(mX S ys).map f)
theorem xK {S ys:List PV}{f:List PV→Sg}(h:S.length+ys.length≤16777216):rD S (some (.v (.list ys))) f=some (.next,f (S++ys)):=by
 show dA ((bif bG (S.length+ys.length) then some (S++ys) else none).map f)=_
 rw [gV h]; rfl
noncomputable def jZ (S:List PV)(o:Option EV)(f:List PV→Sg):Rs:=dA ((bB o).bind fun d=>bif bG (S.length+1) then some (f (S++[d])) else none)
theorem oE {S:List PV}{d:PV}{f:List PV→Sg}(h:S.length+1≤16777216):jZ S (some (.v d)) f=some (.next,f (S++[d])):=by
 show dA (bif bG (S.length+1) then some (f (S++[d])) else none)=_
 rw [gV h]; rfl
noncomputable def cE (G:Gl)(e:E)(x:Nm)(σ:Sg)(d:PV):Option (List PV):=nG (ev {G with sc:=scE e} (kid 0 e) (aU x (.fz d) σ))
section
variable (c m:Nm→List PV→Option PV)
noncomputable def paB:List S:=(df nW).body
noncomputable abbrev paG:Gl:=GD (mrg sp1 c) m (df nW)
noncomputable def kA:Int→List Int→Int
 |m,[]=>m
 |m,x::r=>kA (m+x) r
noncomputable def inU (u:Nat→Int)(i:Int):Bool:=(aM fun k=>PV.int (u k)).any fun y=>eqD y (.int i)
noncomputable def UN (b:Bool)(S i:Int):Option (List PV):=nG (ifE (some b) (some (EV.v (.int (-1)))) (some (EV.v (.int ((S+i).fmod 16)))))
noncomputable def kd (p u:Nat→Int)(i:Int):Int:=bif inU u i then -1 else (kA 0 (aM p)+i).fmod 16
noncomputable abbrev st0 (p u:Nat→Int)(l:Nat→List Nat):Sg:=[(nm "parts",.fz (.list (aM fun i=>.int (p i)))),(nm "leads",.fz (.list (aM fun i=>.str (l i)))),(nm "ups",.fz (.list (aM fun i=>.int (u i))))]
noncomputable abbrev st3 (p u k:Nat→Int)(l:Nat→List Nat)(S R:List PV):Sg:=st0 p u l++[(nm "symbols",.own S),(nm "rows",.own R),(nm "kinds",.fz (.list (aM fun i=>.int (k i))))]
noncomputable abbrev st4 (p u k:Nat→Int)(l:Nat→List Nat)(S R:List PV)(la:List Nat)(d t:Int):Sg:=st3 p u k l S R++[(nm "lead",.fz (.str la)),(nm "d",.fz (.int d)),(nm "letter",.fz (.int t))]
theorem aG0 (p u:Nat→Int)(l:Nat→List Nat):exs (paG c m) paB (st0 p u l)=exs (paG c m) (bM paB 2) (st0 p u l++[(nm "symbols",.own []),(nm "rows",.own [])]):=by
 refine (aL (b:=paB) 0 (by kernel_rfl) (?_:_=some (Fl.next,st0 p u l++[(nm "symbols",.own [])]))).trans (aL 1 (by kernel_rfl) ?_) <;> kernel_rfl
theorem aG1 (p u:Nat→Int)(l:Nat→List Nat)(σ:Sg):ev (paG c m) (aJ (stm paB 2)) (st0 p u l++[(nm "symbols",.own []),(nm "rows",.own [])]) =
  (compLoop (cE (paG c m) (aJ (stm paB 2)) (nm "i") [(nm "parts",.fz (.list (aM fun i=>.int (p i)))),(nm "ups",.fz (.list (aM fun i=>.int (u i))))]) (aM fun i=>.int i)).bind fun l=>mkV (.list l):=by kernel_rfl
theorem aG2 (p u:Nat→Int)(i:Int):cE (paG c m) (aJ (stm paB 2)) (nm "i") [(nm "parts",.fz (.list (aM fun i=>.int (p i)))),(nm "ups",.fz (.list (aM fun i=>.int (u i))))] (.int i)=UN (inU u i) (kA 0 (aM p)) i:=by kernel_rfl
theorem aG3 (p u:Nat→Int)(l:Nat→List Nat):ex (paG c m) (stm paB 2) (st0 p u l++[(nm "symbols",.own []),(nm "rows",.own [])])=some (.next,st3 p u (fun i=>kd p u i) l [] []):=by
 have h:ex (paG c m) (stm paB 2) (st0 p u l++[(nm "symbols",.own []),(nm "rows",.own [])])=eC (paG c m) (nm "kinds") (aJ (stm paB 2)) (st0 p u l++[(nm "symbols",.own []),(nm "rows",.own [])]) (ev (paG c m) (aJ (stm paB 2)) (st0 p u l++[(nm "symbols",.own []),(nm "rows",.own [])])):=by kernel_rfl
 rw [h,aG1 c m p u l []]
 have e:∀i:Int,UN (inU u i) (kA 0 (aM p)) i=some [.int (kd p u i)]:=fun i=>by
  unfold kd; cases inU u i <;> rfl
 have e2:compLoop (cE (paG c m) (aJ (stm paB 2)) (nm "i") [(nm "parts",.fz (.list (aM fun i=>.int (p i)))),(nm "ups",.fz (.list (aM fun i=>.int (u i))))]) (aM fun i=>.int i)=some (aM fun i=>.int (kd p u i)):=by
  simp only [aM,nA,BE,List.cons_append,List.nil_append]
  have:=fun i:Int=>(aG2 c m p u i).trans (e i)
  simp only [aM] at this
  simp only [this,List.cons_append,List.nil_append]
 rw [e2]
 kernel_rfl
theorem aG4 (p u k:Nat→Int)(l:Nat→List Nat):ex (paG c m) (stm paB 3) (st3 p u k l [] [])=forLoop (paG c m).sc (bI (stm paB 3)) (exs (paG c m) (cD (stm paB 3))) (exs (paG c m) (bN (stm paB 3))) (aM fun i=>.tuple [.str (l i),.int (p i),.int (k i)]) (st3 p u k l [] []):=by kernel_rfl
theorem aG5 (p u k:Nat→Int)(l:Nat→List Nat)(S R:List PV)(la:List Nat)(d t:Int):ex (paG c m) (stm paB 4) (st4 p u k l S R la d t) =
  jJ ((cV [cM .Add (some (.v (.list S))) (some (.v (.list [.int 0]))),some (.v (.list R)),some (.v (.list (aM fun i=>.int (k i))))]).bind fun l=>mkV (.tuple l)) (st4 p u k l S R la d t):=by kernel_rfl
noncomputable def pbB:List S:=cD (stm paB 3)
noncomputable def syA (r:Nat)(d:Int):List Int:=[255-d.fmod 200,256+unS (d.fdiv 12)]++(ld r).map fun (c:Nat)=>(256+c:Int)
theorem aG6 (p u k:Nat→Int)(l:Nat→List Nat)(S R:List PV)(d t:Int):(List.range 37).map (fun r=>ex (paG c m) (stm pbB 0) (st4 p u k l S R (ld r) d t)) =
  (List.range 37).map fun r=>rD S (some (.v (.list ((syA r d).map .int)))) fun S=>st4 p u k l S R (ld r) d t:=by kernel_rfl
theorem aG7 (p u k:Nat→Int)(l:Nat→List Nat)(S R:List PV)(la:List Nat)(d t:Int):ex (paG c m) (stm pbB 1) (st4 p u k l S R la d t) =
  ifS (some (decide (t<0))) (exs (paG c m) (cD (stm pbB 1)) (st4 p u k l S R la d t)) (exs (paG c m) (bN (stm pbB 1)) (st4 p u k l S R la d t)):=by kernel_rfl
theorem aG8 (p u k:Nat→Int)(l:Nat→List Nat)(S R:List PV)(la:List Nat)(d t:Int):ex (paG c m) (stm (cD (stm pbB 1)) 0) (st4 p u k l S R la d t) =
  rD S ((cV [((jX (opS d) exD).map PV.int).map EV.v,some (.v (.int 256))]).bind fun l=>mkV (.list l)) fun S=>st4 p u k l S R la d t:=by kernel_rfl
theorem aG9 (p u k:Nat→Int)(l:Nat→List Nat)(S R:List PV)(la:List Nat)(d t:Int):ex (paG c m) (stm (cD (stm pbB 1)) 1) (st4 p u k l S R la d t) =
  jZ R (some (.v (.tuple [.str la,.int (7+d.fmod 48)]))) fun R=>st4 p u k l S R la d t:=by kernel_rfl
theorem aGA (p u k:Nat→Int)(l:Nat→List Nat)(S R:List PV)(la:List Nat)(d t:Int):ex (paG c m) (stm (bN (stm pbB 1)) 0) (st4 p u k l S R la d t) =
  rD S (some (.v (.list [.int (256+spS t d),.int 256]))) fun S=>st4 p u k l S R la d t:=by kernel_rfl
noncomputable def abc:List Nat:=(List.range 16).map (97+·)
theorem aGB (p u k:Nat→Int)(l:Nat→List Nat)(S R:List PV)(la:List Nat)(d t:Int):ex (paG c m) (stm (bN (stm pbB 1)) 1) (st4 p u k l S R la d t) =
  jZ R ((cV [cM .Add (some (.v (.str la))) ((atI abc t).map fun c=>.v (.str [c])),some (.v (.int 0))]).bind fun l=>mkV (.tuple l)) fun R=>st4 p u k l S R la d t:=by kernel_rfl
theorem aGC:(List.range 48).map (fun r=>jX (opT.getD r []) exD)=(List.range 48).map fun (r:Nat)=>some (7+r:Int):=by kernel_rfl
noncomputable def syB (d t:Int):List Int:=bif decide (t<0) then [7+d.fmod 48,256] else [256+spS t d,256]
noncomputable def rwP (r:Nat)(d t:Int):PV:=bif decide (t<0) then .tuple [.str (ld r),.int (7+d.fmod 48)] else .tuple [.str (ld r++[97+t.toNat]),.int 0]
theorem aGD:(List.range 37).all (fun r=>decide ((ld r).length≤6))=true:=by decide +kernel
theorem tX {r:Nat}(h:r<37):(ld r).length≤6:=of_decide_eq_true (List.all_eq_true.mp aGD r (List.mem_range.mpr h))
theorem aGE (d:Int):jX (opS d) exD=some (7+d.fmod 48):=by
 obtain ⟨n,hn,en⟩:=rC d (k:=48) (by decide)
 unfold opS
 rw [en]
 exact oC aGC (i:=n) (Int.ofNat_lt.mp hn)
theorem aGF (p u k:Nat→Int)(l:Nat→List Nat)(S R:List PV){r:Nat}(d t:Int)(hr:r<37)(ht:t<0∨(0≤t∧t<16))(hS:S.length≤1000)(hR:R.length≤1000):
  exs (paG c m) pbB (st4 p u k l S R (ld r) d t)=some (.next,st4 p u k l (S++(syA r d++syB d t).map .int) (R++[rwP r d t]) (ld r) d t):=by
 have hA:((syA r d).map PV.int).length≤8:=by
  have:=tX hr
  simp [syA]; exact this
 refine (aL (b:=pbB) 0 (by kernel_rfl) ((oC (aG6 c m p u k l S R d t) hr).trans (xK (Nat.le_trans (Nat.add_le_add hS hA) (by decide))))).trans ?_
 have key:ex (paG c m) (stm pbB 1) (st4 p u k l (S++(syA r d).map .int) R (ld r) d t)=some (.next,st4 p u k l (S++(syA r d++syB d t).map .int) (R++[rwP r d t]) (ld r) d t):=by
  rw [aG7]
  rcases ht with h |⟨h0,h1⟩
  ·rw [decide_eq_true h]
   show exs (paG c m) (bM (cD (stm pbB 1)) 0) _=_
   have e1:ex (paG c m) (stm (cD (stm pbB 1)) 0) (st4 p u k l (S++(syA r d).map .int) R (ld r) d t)=some (.next,st4 p u k l (S++(syA r d++syB d t).map .int) R (ld r) d t):=by
    rw [aG8,aGE]
    show rD _ (some (.v (.list [.int (7+d.fmod 48),.int 256]))) _=_
    rw [xK (by rw [List.length_append]; exact Nat.le_trans (Nat.add_le_add_right (Nat.add_le_add hS hA) 2) (by decide))]
    simp only [syB,decide_eq_true h,cond_true,List.map_append,List.append_assoc,List.map_cons,List.map_nil]
   refine (aL 0 (by kernel_rfl) e1).trans ((aL 1 (by kernel_rfl) ((aG9 c m p u k l _ R (ld r) d t).trans (oE (by exact Nat.lt_of_le_of_lt hR (by decide))))).trans ?_)
   simp only [rwP,decide_eq_true h,cond_true]
   kernel_rfl
  ·have hn:¬ t<0:=by exact Int.not_lt.mpr h0
   rw [decide_eq_false hn]
   show exs (paG c m) (bM (bN (stm pbB 1)) 0) _=_
   have e1:ex (paG c m) (stm (bN (stm pbB 1)) 0) (st4 p u k l (S++(syA r d).map .int) R (ld r) d t)=some (.next,st4 p u k l (S++(syA r d++syB d t).map .int) R (ld r) d t):=by
    rw [aGA,xK (by rw [List.length_append]; exact Nat.le_trans (Nat.add_le_add_right (Nat.add_le_add hS hA) 2) (by decide))]
    simp only [syB,decide_eq_false hn,cond_false,List.map_append,List.append_assoc,List.map_cons,List.map_nil]
   have hc:atI abc t=some (97+t.toNat):=by
    refine EA h0 (by exact Int.le_of_lt (Int.lt_of_lt_of_le h1 (by decide))) ?_
    unfold abc
    rw [List.getElem?_map,List.getElem?_range ((Int.toNat_lt h0).mpr h1)]
    rfl
   have e2:ex (paG c m) (stm (bN (stm pbB 1)) 1) (st4 p u k l (S++(syA r d++syB d t).map .int) R (ld r) d t)=some (.next,st4 p u k l (S++(syA r d++syB d t).map .int) (R++[rwP r d t]) (ld r) d t):=by
    rw [aGB,hc]
    show jZ R ((cV [((bif bG ((ld r).length+[97+t.toNat].length) then some (ld r++[97+t.toNat]) else none).map PV.str).map EV.v,some (.v (.int 0))]).bind fun l=>mkV (.tuple l)) _=_
    rw [gV (by have:=tX hr; simp only [List.length_cons,List.length_nil]; exact Nat.lt_of_le_of_lt this (by decide))]
    refine (oE (d:=.tuple [.str (ld r++[97+t.toNat]),.int 0]) (by exact Nat.lt_of_le_of_lt hR (by decide))).trans ?_
    simp only [rwP,decide_eq_false hn,cond_false]
   refine (aL 0 (by kernel_rfl) e1).trans ((aL 1 (by kernel_rfl) e2).trans ?_)
   kernel_rfl
 refine (aL (b:=pbB) 1 (by kernel_rfl) key).trans ?_
 kernel_rfl
theorem aGG (p u k:Nat→Int)(l:Nat→List Nat)(S R:List PV)(la:List Nat)(d t:Int):bK (paG c m).sc (bI (stm paB 3)) (.tuple [.str la,.int d,.int t]) (st3 p u k l S R)=some (st4 p u k l S R la d t):=by kernel_rfl
theorem UO (p u k:Nat→Int)(l:Nat→List Nat)(S R:List PV)(la la':List Nat)(d t d' t':Int):bK (paG c m).sc (bI (stm paB 3)) (.tuple [.str la,.int d,.int t]) (st4 p u k l S R la' d' t')=some (st4 p u k l S R la d t):=by kernel_rfl
noncomputable def eT (r:Nat→Nat)(p k:Nat→Int)(is:List Nat):List Int:=is.flatMap fun i=>syA (r i) (p i)++syB (p i) (k i)
theorem UP (u k p:Nat→Int)(r:Nat→Nat)(hr:∀i,r i<37)(hk:∀i,k i<0∨(0≤k i∧k i<16)):∀(is:List Nat) (S R:List PV) (la:List Nat) (d t:Int),S.length+10*is.length≤1000→R.length+is.length≤1000 →
  ∃la' d' t',forLoop (paG c m).sc (bI (stm paB 3)) (exs (paG c m) pbB) (exs (paG c m) (bN (stm paB 3))) (is.map fun i=>.tuple [.str (ld (r i)),.int (p i),.int (k i)]) (st4 p u k (fun i=>ld (r i)) S R la d t) =
   some (.next,st4 p u k (fun i=>ld (r i)) (S++(eT r p k is).map .int) (R++is.map fun i=>rwP (r i) (p i) (k i)) la' d' t')
 |[],S,R,la,d,t,_,_=>⟨la,d,t,by
   simp only [List.map_nil,eT,List.flatMap_nil,List.append_nil]
   kernel_rfl⟩
 |i::is,S,R,la,d,t,h1,h2=>by
  have hl:((syA (r i) (p i)++syB (p i) (k i)).map PV.int).length≤10:=by
   have:=tX (hr i)
   have e:(syB (p i) (k i)).length=2:=by unfold syB; cases decide (k i<0) <;> rfl
   simp [syA,e]; exact this
  simp only [List.length_cons] at h1 h2
  obtain ⟨la',d',t',ih⟩:=UP u k p r hr hk is (S++(syA (r i) (p i)++syB (p i) (k i)).map .int) (R++[rwP (r i) (p i) (k i)]) (ld (r i)) (p i) (k i) (by rw [List.length_append]; exact Nat.le_trans (Nat.add_le_add_right (Nat.add_le_add_left hl _) _) (by rw [Nat.add_assoc,Nat.add_comm 10,←Nat.mul_succ]; exact h1)) (by rw [List.length_append,List.length_singleton,Nat.add_right_comm]; exact h2)
  refine ⟨la',d',t',?_⟩
  rw [List.map_cons,fJ,UO]
  simp only
  rw [aGF c m p u k (fun i=>ld (r i)) S R (p i) (k i) (hr i) (hk i) (by exact Nat.le_trans (Nat.le_add_right _ _) h1) (by exact Nat.le_trans (Nat.le_add_right _ _) h2)]
  simp only
  rw [ih]
  simp only [eT,List.flatMap_cons,List.map_append,List.append_assoc,List.map_cons,List.singleton_append]
end
theorem UQ (p u:Nat→Int)(i:Int):kd p u i<0∨(0≤kd p u i∧kd p u i<16):=by
 unfold kd
 cases inU u i
 ·exact .inr (eS _ (by decide))
 ·exact .inl (by show (-1:Int)<0; decide)
noncomputable def is7:List Nat:=[0,1,2,3,4,5]
noncomputable def tY (r:Nat→Nat)(p k:Nat→Int):PV:=.tuple [.list ((eT r p k is7++[0]).map .int),.list (is7.map fun i=>rwP (r i) (p i) (k i)),.list (aM fun i=>.int (k i))]
theorem xL (r:Nat→Nat)(p k:Nat→Int)(hr:∀i,r i<37):∀is:List Nat,(eT r p k is).length≤10*is.length
 |[]=>Nat.le_refl _
 |i::is=>by
  have:=xL r p k hr is
  have h1:(syA (r i) (p i)).length≤8:=by
   have:=tX (hr i)
   simp [syA]; exact this
  have e:(syB (p i) (k i)).length=2:=by unfold syB; cases decide (k i<0) <;> rfl
  simp only [eT,List.flatMap_cons,List.length_append,List.length_cons,e] at this ⊢
  omega
theorem EF (S L:List PV):cM .Add (some (.v (.list S))) (some (.v (.list L)))=((mX S L).map PV.list).map EV.v:=rfl
theorem EG {α:Type}{x y:List α}(h:x.length+y.length≤16777216):mX x y=some (x++y):=by
 unfold mX
 rw [gV h]
 rfl
theorem aGH (c m:Nm→List PV→Option PV)(p u:Nat→Int)(r:Nat→Nat)(hr:∀i,r i<37):dH (exs (paG c m) paB (st0 p u fun i=>ld (r i)))=some (tY r p fun i=>kd p u i):=by
 rw [aG0]
 rw [aL (b:=paB) 2 (by kernel_rfl) (aG3 c m p u fun i=>ld (r i))]
 have h3:∃la d t,ex (paG c m) (stm paB 3) (st3 p u (fun i=>kd p u i) (fun i=>ld (r i)) [] [])=some (.next,st4 p u (fun i=>kd p u i) (fun i=>ld (r i)) ((eT r p (fun i=>kd p u i) is7).map .int) (is7.map fun i=>rwP (r i) (p i) (kd p u i)) la d t):=by
  obtain ⟨la,d,t,h⟩:=UP c m u (fun i=>kd p u i) p r hr (fun i=>UQ p u i) is7 [] [] (ld (r 0)) (p 0) (kd p u 0) (by decide) (by decide)
  refine ⟨la,d,t,?_⟩
  rw [aG4]
  refine Eq.trans ?_ h
  have e1:=aGG c m p u (fun i=>kd p u i) (fun i=>ld (r i)) [] [] (ld (r 0)) (p 0) (kd p u 0)
  have e2:=UO c m p u (fun i=>kd p u i) (fun i=>ld (r i)) [] [] (ld (r 0)) (ld (r 0)) (p 0) (kd p u 0) (p 0) (kd p u 0)
  simp only [aM,is7,List.map_cons,List.map_nil]
  rw [fJ,fJ,show ((0:Nat):Int)=0 from rfl]
  rw [show (bK (paG c m).sc (bI (stm paB 3)) (.tuple [.str (ld (r 0)),.int (p 0),.int (kd p u 0)]) (st3 p u (fun i=>kd p u i) (fun i=>ld (r i)) [] []))=_ from e1]
  rw [show (bK (paG c m).sc (bI (stm paB 3)) (.tuple [.str (ld (r 0)),.int (p 0),.int (kd p u 0)]) (st4 p u (fun i=>kd p u i) (fun i=>ld (r i)) [] [] (ld (r 0)) (p 0) (kd p u 0)))=_ from e2]
  rfl
 obtain ⟨la,d,t,h3⟩:=h3
 rw [aL (b:=paB) 3 (by kernel_rfl) h3]
 rw [mK (b:=paB) (d:=tY r p fun i=>kd p u i) 4 (by kernel_rfl) (?_:_=some (Fl.ret _,st4 p u (fun i=>kd p u i) (fun i=>ld (r i)) ((eT r p (fun i=>kd p u i) is7).map .int) (is7.map fun i=>rwP (r i) (p i) (kd p u i)) la d t))]
 ·rfl
 rw [aG5]
 rw [EF,EG (by have:=xL r p (fun i=>kd p u i) hr is7; rw [List.length_map]; have e:is7.length=6:=rfl; rw [e] at this; simp only [List.length_cons,List.length_nil]; exact Nat.lt_of_le_of_lt this (by decide))]
 unfold tY
 rw [List.map_append]
 rfl
theorem aGI (n:Nat)(p u:Nat→Int)(r:Nat→Nat)(hr:∀i,r i<37):(O (n+2)).call nW [.list (aM fun i=>.int (p i)),.list (aM fun i=>.str (ld (r i))),.list (aM fun i=>.int (u i))]=some (tY r p fun i=>kd p u i):=by
 refine gQ (D:=df nW) (by kernel_rfl) (by kernel_rfl) (by kernel_rfl) ?_
 rw [←aGi (aGq n)]
 have e:dB (df nW).params [.list (aM fun i=>.int (p i)),.list (aM fun i=>.str (ld (r i))),.list (aM fun i=>.int (u i))]=st0 p u fun i=>ld (r i):=by kernel_rfl
 rw [e]
 exact aGH _ _ p u r hr
theorem mL (a b:Nat):Builtin.bitAnd (a:Int) (b:Int)=((a &&& b:Nat):Int):=by
 unfold Builtin.bitAnd
 rw [decide_eq_true (Int.natCast_nonneg a),decide_eq_true (Int.natCast_nonneg b)]
 rfl
theorem rE (a b:Nat):Builtin.bitOr (a:Int) (b:Int)=((a ||| b:Nat):Int):=by
 have n (x:Nat):Builtin.bitNot (x:Int)=-(x:Int)-1:=by unfold Builtin.bitNot; exact rfl
 unfold Builtin.bitOr Builtin.bitAnd
 rw [n,n,decide_eq_false (by omega),decide_eq_false (by omega)]
 have m (x:Nat):(Builtin.bitNot (-(x:Int)-1)).toNat=x:=by unfold Builtin.bitNot; omega
 simp only [m]
 unfold Builtin.bitNot
 omega
theorem aGJ (a b:Nat):Builtin.bitXor (a:Int) (b:Int)=((a ||| b:Nat):Int)-((a &&& b:Nat):Int):=by
 unfold Builtin.bitXor; rw [rE,mL]
theorem aGK (a b:Nat):(a:Int).fdiv (b:Int)=((a / b:Nat):Int):=by
 rw [Int.fdiv_eq_ediv_of_nonneg _ (Int.natCast_nonneg b)]; rfl
theorem aGL (a b:Nat):(a:Int).fmod (b:Int)=((a%b:Nat):Int):=by
 rw [Int.fmod_eq_emod_of_nonneg _ (Int.natCast_nonneg b)]; rfl
noncomputable def ocB:List S:=(df qZ).body
noncomputable def obB:List S:=cD (stm ocB 1)
noncomputable def wB:List S:=cD (stm obB 1)
section
variable (c m:Nm→List PV→Option PV)
noncomputable abbrev ocG:Gl:=GD c m (df qZ)
noncomputable abbrev so1 (Y:PV)(Q:List PV):Sg:=[(nm "symbols",.fz Y),(nm "octets",.own Q)]
noncomputable abbrev so2 (Y:PV)(Q:List PV)(x:Int)(D:List PV):Sg:=so1 Y Q++[(nm "x",.fz (.int x)),(nm "digits",.own D)]
theorem aGM (Y:PV):exs (ocG c m) ocB [(nm "symbols",.fz Y)]=exs (ocG c m) (bM ocB 1) (so1 Y []):=aL (b:=ocB) 0 (by kernel_rfl) (by kernel_rfl)
theorem aGN (xs:List PV):ex (ocG c m) (stm ocB 1) (so1 (.list xs) [])=forLoop (ocG c m).sc (bI (stm ocB 1)) (exs (ocG c m) obB) (exs (ocG c m) (bN (stm ocB 1))) xs (so1 (.list xs) []):=by kernel_rfl
theorem aGO (Y:PV)(Q:List PV)(x:Int)(D:List PV):ex (ocG c m) (stm ocB 2) (so2 Y Q x D)=jJ ((bif bG Q.length then (mZ Q).map .bytes else none).bind mkV) (so2 Y Q x D):=by kernel_rfl
theorem aGP (Y:PV)(Q:List PV)(x:Int):bK (ocG c m).sc (bI (stm ocB 1)) (.int x) (so1 Y Q)=some (so1 Y Q++[(nm "x",.fz (.int x))]):=by kernel_rfl
theorem aGQ (Y:PV)(Q:List PV)(x y:Int)(D:List PV):bK (ocG c m).sc (bI (stm ocB 1)) (.int x) (so2 Y Q y D)=some (so2 Y Q x D):=by kernel_rfl
theorem aGR (Y:PV)(Q:List PV)(x:Int):ex (ocG c m) (stm obB 0) (so1 Y Q++[(nm "x",.fz (.int x))])=some (.next,so2 Y Q x [.int (Builtin.bitAnd x 63)]):=by kernel_rfl
theorem aGS (Y:PV)(Q:List PV)(x:Int)(D:List PV):ex (ocG c m) (stm obB 0) (so2 Y Q x D)=some (.next,so2 Y Q x [.int (Builtin.bitAnd x 63)]):=by kernel_rfl
noncomputable def oT (G:Gl)(σ:Sg):Option Bool:=tr G (aJ (stm obB 1)) σ (ev G (aJ (stm obB 1)) σ)
theorem aGT (Y:PV)(Q:List PV)(x:Int)(D:List PV):ex (ocG c m) (stm obB 1) (so2 Y Q x D)=jA (oT (ocG c m)) (exs (ocG c m) wB) (exs (ocG c m) (bN (stm obB 1))) 200 (so2 Y Q x D):=by kernel_rfl
theorem EH (Y:PV)(Q:List PV)(x:Int)(D:List PV):oT (ocG c m) (so2 Y Q x D)=some (decide (x > 63)):=by kernel_rfl
theorem w_0 (Y:PV)(Q:List PV)(x:Int)(D:List PV):ex (ocG c m) (stm wB 0) (so2 Y Q x D)=some (.next,so2 Y Q (x.fdiv 64) D):=by kernel_rfl
theorem w_1 (Y:PV)(Q:List PV)(x:Int)(D:List PV):ex (ocG c m) (stm wB 1) (so2 Y Q x D)=jZ D (some (.v (.int (Builtin.bitOr (Builtin.bitAnd x 63) 64)))) fun D=>so2 Y Q x D:=by kernel_rfl
theorem aGU (Y:PV)(Q:List PV)(x:Int)(D:List PV)(h:D.length≤100):exs (ocG c m) wB (so2 Y Q x D)=some (.next,so2 Y Q (x.fdiv 64) (D++[.int (Builtin.bitOr (Builtin.bitAnd (x.fdiv 64) 63) 64)])):=by
 refine (aL (b:=wB) 0 (by kernel_rfl) (w_0 c m Y Q x D)).trans ((aL (b:=wB) 1 (by kernel_rfl) ((w_1 c m Y Q _ D).trans (oE (by exact Nat.lt_of_le_of_lt h (by decide))))).trans ?_)
 kernel_rfl
noncomputable def dS:Nat→Nat→List Nat
 |0,_=>[]
 |n+1,x=>bif decide (x > 63) then ((x / 64)%64 ||| 64)::dS n (x / 64) else []
theorem mask (x:Nat):Builtin.bitAnd (x:Int) 63=((x%64:Nat):Int):=by
 rw [show (63:Int)=((63:Nat):Int) from rfl,mL,Nat.and_two_pow_sub_one_eq_mod x 6]
theorem UR (Y:PV)(Q:List PV):∀(n x:Nat) (D:List PV),x<64 ^ (n+1)→D.length+n≤100→∀N,n≤N→∃y:Int,jA (oT (ocG c m)) (exs (ocG c m) wB) (exs (ocG c m) (bN (stm obB 1))) (N+1) (so2 Y Q x D)=some (.next,so2 Y Q y (D++(dS n x).map fun d=>.int (d:Nat)))
 |0,x,D,h,hD,N,hN=>⟨x,by
  have:¬ ((x:Int) > 63):=Int.not_lt.mpr (Int.ofNat_le.mpr (Nat.le_of_lt_succ h))
  rw [nJ,EH,decide_eq_false this]
  simp only [dS,List.map_nil,List.append_nil]
  kernel_rfl⟩
 |n+1,x,D,h,hD,N,hN=>by
  by_cases hx:x > 63
  ·obtain ⟨N,rfl⟩:∃k,N=k+1:=⟨N-1,(Nat.sub_add_cancel (Nat.le_trans (Nat.succ_pos n) hN)).symm⟩
   obtain ⟨y,ih⟩:=UR Y Q n (x / 64) (D++[.int ((x / 64%64 ||| 64:Nat))]) (Nat.div_lt_of_lt_mul (by rw [Nat.mul_comm]; exact h)) (by rw [List.length_append,List.length_singleton,Nat.add_right_comm]; exact hD) N (by exact Nat.le_of_lt_succ hN)
   refine ⟨y,?_⟩
   rw [nJ,EH,decide_eq_true (show (x:Int) > 63 by exact Int.ofNat_le.mpr hx)]
   simp only
   rw [aGU c m Y Q x D (by exact Nat.le_trans (Nat.le_add_right _ _) hD)]
   simp only
   rw [show (x:Int).fdiv 64=((x / 64:Nat):Int) from aGK x 64,mask,show (64:Int)=((64:Nat):Int) from rfl,rE,ih]
   simp only [dS,decide_eq_true hx,cond_true,List.map_cons,List.append_assoc,List.singleton_append]
  ·refine ⟨x,?_⟩
   have:¬ ((x:Int) > 63):=by exact mt Int.ofNat_le.mp hx
   rw [nJ,EH,decide_eq_false this]
   simp only [dS,decide_eq_false hx,cond_false,List.map_nil,List.append_nil]
   kernel_rfl
noncomputable def itR (o:Option EV):Option (List PV):=(bB o).bind AZ
theorem US (l:List PV):itR (some (.v (.list l)))=some l:=rfl
noncomputable def lcR (o:Option (List PV))(f:List PV→Option (List PV)):Option EV:=o.bind fun xs=>(f xs).bind fun l=>mkV (.list l)
theorem EI (l:List PV)(f:List PV→Option (List PV)):lcR (some l) f=(f l).bind fun l=>mkV (.list l):=rfl
theorem UT {l:List PV}(h:l.length≤16777216):mkV (.list l)=some (.v (.list l)):=by
 show (bif bG l.length then _ else _)=_
 rw [gV h]; rfl
theorem aGV (Y:PV)(Q:List PV)(x:Int)(D:List PV):ex (ocG c m) (stm obB 2) (so2 Y Q x D)=rD Q (lcR (itR (bif bG D.length then (pX D none none (some (-1))).bind fun l=>mkV (.list l) else none)) (compLoop (cE (ocG c m) (aJ (stm obB 2)) (nm "digit") [(nm "octets",.own Q)]))) fun Q=>so2 Y Q x D:=by kernel_rfl
noncomputable def UU (q:Option PV)(d:Int):Option (List PV):=nG (cM .BitOr (some (.v (.int d))) (cM .Mult (some (.v (.int 128))) (cM .Mod (q.bind mkV) (some (.v (.int 2))))))
theorem aGW (Q:List PV)(d:Int):cE (ocG c m) (aJ (stm obB 2)) (nm "digit") [(nm "octets",.own Q)] (.int d)=UU (bif bG Q.length then some (.int Q.length) else none) d:=by kernel_rfl
theorem aGX (n:Nat)(h:n≤1000)(d:Nat):UU (bif bG n then some (.int n) else none) (d:Int)=some [.int ((d ||| 128*(n%2):Nat))]:=by
 rw [gV (by exact Nat.le_trans h (by decide))]
 show nG (cM .BitOr (some (.v (.int d))) (cM .Mult (some (.v (.int 128))) (some (.v (.int ((n:Int).fmod 2))))))=_
 rw [show (n:Int).fmod 2=((n%2:Nat):Int) from aGL n 2]
 have h2:n%2=0∨n%2=1:=Nat.mod_two_eq_zero_or_one n
 rcases h2 with h2 |h2
 ·rw [h2]
  show some [PV.int (Builtin.bitOr (d:Int) ((0:Nat):Int))]=_
  rw [rE]
 ·rw [h2]
  show some [PV.int (Builtin.bitOr (d:Int) ((128:Nat):Int))]=_
  rw [rE]
theorem aGY (D:List PV)(h:D.length≤4):pX D none none (some (-1))=some D.reverse:=by
 match D,h with
 |[],_=>kernel_rfl
 |[a],_=>kernel_rfl
 |[a,b],_=>kernel_rfl
 |[a,b,c],_=>kernel_rfl
 |[a,b,c,d],_=>kernel_rfl
 |_::_::_::_::_::_,h=>simp at h
noncomputable def cY (n x:Nat):List Nat:=((x%64)::dS 3 x).reverse.map fun d=>d ||| 128*(n%2)
theorem EJ:∀n x,(dS n x).length≤n
 |0,_=>Nat.le_refl _
 |n+1,x=>by
  have:=EJ n (x / 64)
  simp only [dS]
  cases decide (x > 63) <;> simp <;> exact this
theorem UV {g:PV→Option (List PV)}{k:Nat→Nat}(h:∀d:Nat,g (.int d)=some [.int (k d:Nat)]):∀ds:List Nat,compLoop g (ds.map fun (d:Nat)=>PV.int d)=some (ds.map fun d=>PV.int (k d:Nat))
 |[]=>rfl
 |d::r=>by simp only [List.map_cons,nA,BE,h,UV h r,List.singleton_append]
theorem aGZ (Y:PV)(Q:List PV)(x:Int)(ds:List Nat)(h1:Q.length≤1000)(h2:ds.length≤4):ex (ocG c m) (stm obB 2) (so2 Y Q x (ds.map fun (d:Nat)=>.int d)) =
  some (.next,so2 Y (Q++(ds.reverse.map fun d=>.int ((d ||| 128*(Q.length%2):Nat)))) x (ds.map fun (d:Nat)=>.int d)):=by
 rw [aGV,aGY _ (by rw [List.length_map]; exact h2),gV (by rw [List.length_map]; exact Nat.le_trans h2 (by decide))]
 have e1:mkV (.list (ds.map fun (d:Nat)=>PV.int d).reverse)=some (.v (.list (ds.reverse.map fun (d:Nat)=>PV.int d))):=by
  rw [UT (by rw [List.length_reverse,List.length_map]; exact Nat.le_trans h2 (by decide)),List.map_reverse]
 simp only [cond_true,Option.bind_some,e1,US,EI]
 have e3:=UV (g:=cE (ocG c m) (aJ (stm obB 2)) (nm "digit") [(nm "octets",.own Q)]) (k:=fun d=>d ||| 128*(Q.length%2)) (fun d=>(aGW c m Q d).trans (aGX Q.length h1 d)) ds.reverse
 rw [e3]
 have e2:mkV (.list (ds.reverse.map fun d=>PV.int ((d ||| 128*(Q.length%2):Nat))))=some (.v (.list (ds.reverse.map fun d=>PV.int ((d ||| 128*(Q.length%2):Nat))))):=UT (by rw [List.length_map,List.length_reverse]; exact Nat.le_trans h2 (by decide))
 simp only [Option.bind_some,e2]
 exact xK (by simp only [List.length_map,List.length_reverse]; omega)
theorem UW (Y:PV)(Q:List PV)(x:Nat)(σ:Sg)(h0:ex (ocG c m) (stm obB 0) σ=some (.next,so2 Y Q x [.int (Builtin.bitAnd x 63)]))(hx:x<64 ^ 4)(hQ:Q.length≤1000):
  ∃y D,exs (ocG c m) obB σ=some (.next,so2 Y (Q++(cY Q.length x).map fun (d:Nat)=>.int d) y D):=by
 obtain ⟨y,hw⟩:=UR c m Y Q 3 x [.int (Builtin.bitAnd x 63)] hx (by rw [List.length_singleton]; decide) 199 (by decide)
 refine ⟨y,((x%64)::dS 3 x).map fun (d:Nat)=>.int d,?_⟩
 refine (aL (b:=obB) 0 (by kernel_rfl) h0).trans ((aL (b:=obB) 1 (by kernel_rfl) ((aGT c m Y Q x _).trans hw)).trans ?_)
 rw [mask]
 have e:[PV.int ((x%64:Nat))]++((dS 3 x).map fun d=>PV.int (d:Nat))=((x%64)::dS 3 x).map fun (d:Nat)=>PV.int d:=rfl
 rw [e]
 refine (aL (b:=obB) 2 (by kernel_rfl) (aGZ c m Y Q y ((x%64)::dS 3 x) hQ (by have:=EJ 3 x; rw [List.length_cons]; exact Nat.lt_succ_of_le this))).trans ?_
 unfold cY
 rw [List.map_map]
 kernel_rfl
noncomputable def bW:Nat→List Nat→List Nat
 |_,[]=>[]
 |n,x::r=>cY n x++bW (n+(cY n x).length) r
theorem EK (n x:Nat):(cY n x).length≤4:=by
 have:=EJ 3 x
 simp [cY]; exact this
theorem UX:∀(xs:List Nat) (n:Nat),(bW n xs).length≤4*xs.length
 |[],_=>Nat.le_refl _
 |x::r,n=>by
  have h1:=EK n x
  have h2:=UX r (n+(cY n x).length)
  show List.length (cY n x++bW (n+(cY n x).length) r)≤_
  rw [List.length_append]
  exact Nat.le_trans (Nat.add_le_add h1 h2) (Nat.le_of_eq (Nat.add_comm _ _))
theorem UY (Y:PV):∀(xs:List Nat) (Q:List PV) (y:Int) (D:List PV),(∀x∈xs,x<64 ^ 4)→Q.length+4*xs.length≤1000 →
  ∃y' D',forLoop (ocG c m).sc (bI (stm ocB 1)) (exs (ocG c m) obB) (exs (ocG c m) (bN (stm ocB 1))) (xs.map fun (x:Nat)=>.int x) (so2 Y Q y D)=some (.next,so2 Y (Q++(bW Q.length xs).map fun (d:Nat)=>.int d) y' D')
 |[],Q,y,D,_,_=>⟨y,D,by
   simp only [List.map_nil,bW,List.append_nil]
   kernel_rfl⟩
 |x::r,Q,y,D,hx,hl=>by
  simp only [List.length_cons] at hl
  obtain ⟨y1,D1,h1⟩:=UW c m Y Q x (so2 Y Q x D) (aGS c m Y Q x D) (hx x (.head _)) (by exact Nat.le_trans (Nat.le_add_right _ _) hl)
  have hq:=EK Q.length x
  obtain ⟨y2,D2,h2⟩:=UY Y r (Q++(cY Q.length x).map fun (d:Nat)=>.int d) y1 D1 (fun z hz=>hx z (.tail _ hz)) (by rw [List.length_append,List.length_map]; exact Nat.le_trans (Nat.add_le_add_right (Nat.add_le_add_left hq _) _) (by rw [Nat.add_assoc,Nat.add_comm 4,←Nat.mul_succ]; exact hl))
  refine ⟨y2,D2,?_⟩
  rw [List.map_cons,fJ,aGQ]
  simp only
  rw [h1]
  simp only
  rw [h2]
  simp only [bW,List.length_append,List.length_map,List.map_append,List.append_assoc]
theorem UZ:∀ds:List Nat,(∀d∈ds,d<256)→mZ (ds.map fun (d:Nat)=>.int d)=some ds
 |[],_=>rfl
 |d::r,h=>by
  have h1:=h d (.head _)
  have h2:=UZ r fun z hz=>h z (.tail _ hz)
  show (bif decide (0≤(d:Int)) && decide ((d:Int)<256) then (mZ (r.map fun (d:Nat)=>.int d)).map ((d:Int).toNat::·) else none)=_
  rw [h2,decide_eq_true (Int.natCast_nonneg d),decide_eq_true (show (d:Int)<256 by exact Int.ofNat_le.mpr h1)]
  rfl
theorem aHa:(List.range 64).all (fun q=>(List.range 2).all fun b=>decide (q ||| 128*b<256) && ((q ||| 128*b) &&& 63==q) && ((q ||| 128*b) &&& 64==0) && decide (q ||| 64 ||| 128*b<256) && ((q ||| 64 ||| 128*b) &&& 63==q) && ((q ||| 64 ||| 128*b) &&& 64==64))=true:=by decide +kernel
theorem EL {q b:Nat}(hq:q<64)(hb:b<2):q ||| 128*b<256∧(q ||| 128*b) &&& 63=q∧(q ||| 128*b) &&& 64=0∧q ||| 64 ||| 128*b<256∧(q ||| 64 ||| 128*b) &&& 63=q∧(q ||| 64 ||| 128*b) &&& 64=64:=by
 have:=List.all_eq_true.mp (List.all_eq_true.mp aHa q (List.mem_range.mpr hq)) b (List.mem_range.mpr hb)
 simpa [and_assoc] using this
theorem VA:∀(n x d:Nat),d∈dS n x→∃q,q<64∧d=q ||| 64
 |n+1,x,d,h=>by
  simp only [dS] at h
  cases hx:decide (x > 63) with
  |false=>rw [hx] at h; cases h
  |true=>
   rw [hx] at h
   rcases List.mem_cons.mp h with rfl |h
   ·exact ⟨x / 64%64,Nat.mod_lt _ (by decide),rfl⟩
   ·exact VA n _ d h
theorem aHb (n x d:Nat)(h:d∈cY n x):d<256:=by
 unfold cY at h
 obtain ⟨e,he,rfl⟩:=List.mem_map.mp h
 rcases List.mem_cons.mp (List.mem_reverse.mp he) with rfl |he
 ·exact (EL (Nat.mod_lt _ (by decide)) (Nat.mod_lt _ (by decide))).1
 ·obtain ⟨q,hq,rfl⟩:=VA _ _ _ he
  exact (EL hq (Nat.mod_lt _ (by decide))).2.2.2.1
theorem VB:∀(xs:List Nat) (n d:Nat),d∈bW n xs→d<256
 |x::r,n,d,h=>by
  rcases List.mem_append.mp h with h |h
  ·exact aHb _ _ _ h
  ·exact VB r _ d h
theorem aHc (xs:List Nat)(h:∀x∈xs,x<64 ^ 4)(hl:xs.length≤100)(h0:xs≠[]):dH (exs (ocG c m) ocB [(nm "symbols",.fz (.list (xs.map fun (x:Nat)=>.int x)))])=some (.bytes (bW 0 xs)):=by
 rw [aGM]
 have h1:∃y D,ex (ocG c m) (stm ocB 1) (so1 (.list (xs.map fun (x:Nat)=>.int x)) [])=some (.next,so2 (.list (xs.map fun (x:Nat)=>.int x)) ((bW 0 xs).map fun (d:Nat)=>.int d) y D):=by
  cases xs with
  |nil=>exact absurd rfl h0
  |cons x r=>
   obtain ⟨y1,D1,h1⟩:=UW c m (.list ((x::r).map fun (x:Nat)=>.int x)) [] x _ (aGR c m _ [] x) (h x (.head _)) (by decide)
   obtain ⟨y2,D2,h2⟩:=UY c m (.list ((x::r).map fun (x:Nat)=>.int x)) r ([]++(cY 0 x).map fun (d:Nat)=>.int d) y1 D1 (fun z hz=>h z (.tail _ hz)) (by have:=EK 0 x; simp only [List.length_cons] at hl; rw [List.length_append,List.length_map,List.length_nil]; omega)
   refine ⟨y2,D2,?_⟩
   rw [aGN,List.map_cons,fJ,aGP]
   simp only [List.map_cons] at h1 h2 ⊢
   rw [h1]
   simp only [List.length_nil] at h2 ⊢
   rw [h2]
   simp only [bW,List.length_append,List.length_map,List.map_append,List.nil_append,List.length_nil,Nat.zero_add]
 obtain ⟨y,D,h1⟩:=h1
 have hq:=UX xs 0
 rw [aL (b:=ocB) 1 (by kernel_rfl) h1,mK (b:=ocB) (d:=.bytes (bW 0 xs)) 2 (by kernel_rfl) (?_:_=some (Fl.ret _,so2 (.list (xs.map fun (x:Nat)=>.int x)) ((bW 0 xs).map fun (d:Nat)=>.int d) y D))]
 ·rfl
 rw [aGO,UZ _ (fun d hd=>VB _ _ _ hd),gV (by rw [List.length_map]; omega)]
 show jJ (mkV (.bytes (bW 0 xs))) _=_
 unfold mkV szB
 simp only [gV (show (bW 0 xs).length≤16777216 by omega),cond_true]
 rfl
end
theorem aHd (n:Nat)(xs:List Nat)(h:∀x∈xs,x<64 ^ 4)(hl:xs.length≤100)(h0:xs≠[]):(O (n+1)).call qZ [.list (xs.map fun (x:Nat)=>.int x)]=some (.bytes (bW 0 xs)):=
 gQ (D:=df qZ) (by kernel_rfl) (by kernel_rfl) (by kernel_rfl) (aHc _ _ xs h hl h0)
theorem xM {n:Nat}{v:Int}{b:Nat}{r:List PV}(h:b &&& 64=0):vGo (n+1) v b r=some (.int v,r):=by
 have e:(Builtin.bitAnd (b:Int) 64==0)=true:=by
  rw [show (64:Int)=((64:Nat):Int) from rfl,mL,h]; rfl
 show (bif Builtin.bitAnd (b:Int) 64==0 then _ else _)=_
 rw [e]
 rfl
theorem rF {n v b d:Nat}{r:List PV}(h:b &&& 64=64)(hd:d &&& 63<64)(hv:v<2 ^ 64):vGo (n+1) (v:Int) b (.int d::r)=vGo n ((v*64+(d &&& 63):Nat):Int) d r:=by
 have e:(Builtin.bitAnd (b:Int) 64==0)=false:=by
  rw [show (64:Int)=((64:Nat):Int) from rfl,mL,h]; rfl
 show (bif Builtin.bitAnd (b:Int) 64==0 then _ else (bif decide ((v:Int).natAbs<2 ^ 64) then vGo n (Builtin.bitOr ((v:Int)*64) (Builtin.bitAnd (d:Int) 63)) d r else none))=_
 rw [e,Int.natAbs_natCast,decide_eq_true hv]
 show vGo n (Builtin.bitOr ((v:Int)*64) (Builtin.bitAnd (d:Int) 63)) d r=_
 rw [show (63:Int)=((63:Nat):Int) from rfl,mL,show (v:Int)*64=((v*64:Nat):Int) by push_cast; rfl,rE]
 have:=Nat.two_pow_add_eq_or_of_lt (i:=6) hd v
 rw [show (2:Nat) ^ 6=64 from rfl,Nat.mul_comm] at this
 rw [←this]
theorem xN {d:Nat}{r:List PV}:tV (.int d::r)=vGo (196+1+1+1+1) ((d &&& 63:Nat):Int) d r:=by
 show vGo 200 (Builtin.bitAnd d 63) d r=_
 rw [show (63:Int)=((63:Nat):Int) from rfl,mL]
theorem m64 {a b M:Nat}(h:a<M)(hb:b<64):a*64+b<M*64:=Nat.lt_of_lt_of_le (Nat.add_lt_add_left hb _) (Nat.succ_mul a 64▸Nat.mul_le_mul_right 64 h)
theorem VC (n x:Nat)(r:List PV)(h:x<64 ^ 4):tV ((cY n x).map (fun (d:Nat)=>PV.int d)++r)=some (.int x,r):=by
 have hb:n%2<2:=Nat.mod_lt _ (by decide)
 have q (y:Nat):=EL (Nat.mod_lt y (show 0<64 by decide)) hb
 have ql (y:Nat):y%64<64:=Nat.mod_lt _ (by decide)
 unfold cY
 by_cases h1:x > 63
 ·by_cases h2:x / 64 > 63
  ·by_cases h3:x / 64 / 64 > 63
   ·simp only [dS,decide_eq_true h1,decide_eq_true h2,decide_eq_true h3,cond_true,List.reverse_cons,List.reverse_nil,List.nil_append,List.cons_append,List.map_cons,List.map_nil]
    rw [xN,(q _).2.2.2.2.1,rF (q _).2.2.2.2.2 (by rw [(q _).2.2.2.2.1]; exact ql _) (Nat.lt_of_lt_of_le (ql _) (by decide)),(q _).2.2.2.2.1,rF (q _).2.2.2.2.2 (by rw [(q _).2.2.2.2.1]; exact ql _) (Nat.lt_of_lt_of_le (m64 (ql _) (ql _)) (by decide)),(q _).2.2.2.2.1,rF (q _).2.2.2.2.2 (by rw [(q _).2.1]; exact ql _) (Nat.lt_of_lt_of_le (m64 (m64 (ql _) (ql _)) (ql _)) (by decide)),(q _).2.1,xM (q _).2.2.1]
    rw [Nat.mod_eq_of_lt (Nat.div_lt_of_lt_mul (Nat.div_lt_of_lt_mul (Nat.div_lt_of_lt_mul (show x<64*(64*(64*64)) from h)))),Nat.div_add_mod',Nat.div_add_mod',Nat.div_add_mod']
   ·simp only [dS,decide_eq_true h1,decide_eq_true h2,decide_eq_false h3,cond_true,cond_false,List.reverse_cons,List.reverse_nil,List.nil_append,List.cons_append,List.map_cons,List.map_nil]
    rw [xN,(q _).2.2.2.2.1,rF (q _).2.2.2.2.2 (by rw [(q _).2.2.2.2.1]; exact ql _) (Nat.lt_of_lt_of_le (ql _) (by decide)),(q _).2.2.2.2.1,rF (q _).2.2.2.2.2 (by rw [(q _).2.1]; exact ql _) (Nat.lt_of_lt_of_le (m64 (ql _) (ql _)) (by decide)),(q _).2.1,xM (q _).2.2.1]
    rw [Nat.mod_eq_of_lt (Nat.lt_succ_of_le (Nat.le_of_not_lt h3)),Nat.div_add_mod',Nat.div_add_mod']
  ·simp only [dS,decide_eq_true h1,decide_eq_false h2,cond_true,cond_false,List.reverse_cons,List.reverse_nil,List.nil_append,List.cons_append,List.map_cons,List.map_nil]
   rw [xN,(q _).2.2.2.2.1,rF (q _).2.2.2.2.2 (by rw [(q _).2.1]; exact ql _) (Nat.lt_of_lt_of_le (ql _) (by decide)),(q _).2.1,xM (q _).2.2.1]
   rw [Nat.mod_eq_of_lt (Nat.lt_succ_of_le (Nat.le_of_not_lt h2)),Nat.div_add_mod']
 ·simp only [dS,decide_eq_false h1,cond_false,List.reverse_cons,List.reverse_nil,List.nil_append,List.cons_append,List.map_cons,List.map_nil]
  rw [xN,(q _).2.1,xM (q _).2.2.1]
  rw [Nat.mod_eq_of_lt (Nat.lt_succ_of_le (Nat.le_of_not_lt h1))]
noncomputable def reB:List S:=(df rA).body
noncomputable def rbB:List S:=cD (stm reB 3)
section
variable (n:Nat)
noncomputable abbrev reG:Gl:=GD (O (n+1)).call (O (n+1)).meth (df rA)
noncomputable abbrev sr1 (b:List Nat)(I R:List PV)(x:Int):Sg:=[(nm "octets",.fz (.bytes b)),(nm "iterator",.iter none I),(nm "rows",.own R),(nm "x",.fz (.int x))]
noncomputable abbrev sr2 (b:List Nat)(I R:List PV)(x:Int)(W:PV):Sg:=sr1 b I R x++[(nm "told",.fz W)]
noncomputable abbrev sr4 (b:List Nat)(I R:List PV)(x:Int)(W:PV)(t o:PV):Sg:=sr2 b I R x W++[(nm "text",.fz t),(nm "op",.fz o)]
theorem aHe (b:List Nat):exs (reG n) reB [(nm "octets",.fz (.bytes b))]=exs (reG n) (bM reB 3) (sr1 b (b.map fun c=>.int (Int.ofNat c)) [.tuple [.str [],.int 0]] 1):=by
 refine (aL (b:=reB) 0 (by kernel_rfl) (?_:_=some (Fl.next,[(nm "octets",.fz (.bytes b)),(nm "iterator",.iter none (b.map fun c=>.int (Int.ofNat c)))]))).trans
   ((aL (b:=reB) 1 (by kernel_rfl) (?_:_=some (Fl.next,[(nm "octets",.fz (.bytes b)),(nm "iterator",.iter none (b.map fun c=>.int (Int.ofNat c))),(nm "rows",.own [.tuple [.str [],.int 0]])]))).trans
  (aL (b:=reB) 2 (by kernel_rfl) (by kernel_rfl))) <;> kernel_rfl
noncomputable def rT (G:Gl)(σ:Sg):Option Bool:=tr G (aJ (stm reB 3)) σ (ev G (aJ (stm reB 3)) σ)
theorem aHf (σ:Sg):ex (reG n) (stm reB 3) σ=jA (rT (reG n)) (exs (reG n) rbB) (exs (reG n) (bN (stm reB 3))) 200 σ:=by kernel_rfl
theorem aHg (b:List Nat)(I R:List PV)(x:Int):rT (reG n) (sr1 b I R x)=some (!(x==0)):=by kernel_rfl
theorem VD (b:List Nat)(I R:List PV)(x:Int)(W t o:PV):rT (reG n) (sr4 b I R x W t o)=some (!(x==0)):=by kernel_rfl
noncomputable def VE (o:Option (PV × List PV))(f:PV→List PV→Sg):Rs:=o.map fun r=>(.next,f r.1 r.2)
theorem aHh (b:List Nat)(I R:List PV)(x:Int):ex (reG n) (stm rbB 0) (sr1 b I R x)=VE (tV I) (fun d I=>[(nm "octets",.fz (.bytes b)),(nm "iterator",.iter none I),(nm "rows",.own R),(nm "x",.fz d)]):=by kernel_rfl
theorem aHi (b:List Nat)(I R:List PV)(x:Int)(W t o:PV):ex (reG n) (stm rbB 0) (sr4 b I R x W t o)=VE (tV I) (fun d I=>[(nm "octets",.fz (.bytes b)),(nm "iterator",.iter none I),(nm "rows",.own R),(nm "x",.fz d),(nm "told",.fz W),(nm "text",.fz t),(nm "op",.fz o)]):=by kernel_rfl
noncomputable def gW (x:Int):PV:=.list [.bool (x==0),.bool (decide (x<256)),.bool (decide (x≥256)),.bool (-x==0),.bool (decide (-x<256)),.bool (decide (-x≥256))]
theorem aHj (b:List Nat)(I R:List PV)(x:Int):ex (reG n) (stm rbB 1) (sr1 b I R x)=some (.next,sr2 b I R x (gW x)):=by kernel_rfl
theorem aHk (b:List Nat)(I R:List PV)(x:Int)(W t o:PV):ex (reG n) (stm rbB 1) (sr4 b I R x W t o)=some (.next,sr4 b I R x (gW x) t o):=by kernel_rfl
noncomputable def rG (d:PV):Option EV:=((BB d).map .str).bind mkV
noncomputable abbrev ifC (o:Option Bool)(t e:Rs):Rs:=ifS o t e
theorem aHl (t e:Rs):ifS (some true) t e=t:=rfl
theorem aHm (t e:Rs):ifS (some false) t e=e:=rfl
noncomputable def neR (a b:Option EV):Option Bool:=trV (qA [.NotEq] a [b])
noncomputable def rH (e t g:Bool):PV:=.list [.bool e,.bool t,.bool g,.bool e,.bool true,.bool false]
theorem aHn (b:List Nat)(I R:List PV)(x:Int)(W:PV):ex (reG n) (stm rbB 2) (sr2 b I R x W)=ifC (neR (rG W) (rG (rH (x==0) (decide (x<256)) (decide (x≥256))))) (exs (reG n) (cD (stm rbB 2)) (sr2 b I R x W)) (some (.next,sr2 b I R x W)):=by kernel_rfl
theorem aHo (b:List Nat)(I R:List PV)(x:Int)(W t o:PV):ex (reG n) (stm rbB 2) (sr4 b I R x W t o)=ifC (neR (rG W) (rG (rH (x==0) (decide (x<256)) (decide (x≥256))))) (exs (reG n) (cD (stm rbB 2)) (sr4 b I R x W t o)) (some (.next,sr4 b I R x W t o)):=by kernel_rfl
theorem VF (e t g:Bool):neR (rG (rH e t g)) (rG (rH e t g))=some false:=by
 cases e <;> cases t <;> cases g <;> kernel_rfl
theorem VG (x:Nat):gW (x:Int)=rH ((x:Int)==0) (decide ((x:Int)<256)) (decide ((x:Int)≥256)):=by
 have e1:(-(x:Int)==0)=((x:Int)==0):=by
  by_cases h:x=0
  ·subst h; rfl
  ·rw [beq_eq_false_iff_ne.mpr (by omega),beq_eq_false_iff_ne.mpr (by exact mt Int.ofNat.inj h)]
 unfold gW rH
 rw [e1,decide_eq_true (show -(x:Int)<256 by omega),decide_eq_false (show ¬ -(x:Int)≥256 by omega)]
noncomputable def rI (G:Gl)(s:S)(σ:Sg)(o:Option EV):Rs:=match s with
 |.tup xs k tp e _=>QH G xs e k tp o σ
 |_=>none
theorem aHp (b:List Nat)(I R:List PV)(x:Int)(W:PV):ex (reG n) (stm rbB 3) (sr2 b I R x W)=rI (reG n) (stm rbB 3) (sr2 b I R x W) ((atI R (-1)).map .v):=by kernel_rfl
theorem aHq (b:List Nat)(I R:List PV)(x:Int)(W t o:PV):ex (reG n) (stm rbB 3) (sr4 b I R x W t o)=rI (reG n) (stm rbB 3) (sr4 b I R x W t o) ((atI R (-1)).map .v):=by kernel_rfl
theorem aHr (b:List Nat)(I R:List PV)(x:Int)(W:PV)(t o:PV):rI (reG n) (stm rbB 3) (sr2 b I R x W) (some (.v (.tuple [t,o])))=some (.next,sr4 b I R x W t o):=by kernel_rfl
theorem aHs (b:List Nat)(I R:List PV)(x:Int)(W:PV)(t o t' o':PV):rI (reG n) (stm rbB 3) (sr4 b I R x W t' o') (some (.v (.tuple [t,o])))=some (.next,sr4 b I R x W t o):=by kernel_rfl
noncomputable def b3S (c:Nat):List Nat:=bif decide (c≥119808) then [97+(c-119808)%26] else bif decide (65≤c) && decide (c<91) then [c+32] else [c]
noncomputable def VH (R:List PV)(o:Option EV)(f:List PV→Sg):Rs:=dA ((bB o).bind fun d=>(iB R (-1) d).map f)
noncomputable def thn (o:Rs):Rs:=DZ o fun σ=>some (.next,σ)
noncomputable def EM (x:Int)(R:List PV)(t:List Nat)(o:PV)(f:List PV→Sg):Rs:=
 bif x==256 then thn (jZ R (some (.v (.tuple [.str [],.int 0]))) f)
 else bif decide (0<x) && decide (x<55) then thn (thn (VH R (some (.v (.tuple [.str t,.int x]))) f))
 else bif decide (x≥256) && !eB (x-256) then thn (thn (thn (VH R ((cV [cM .Add (some (.v (.str t))) (some (.v (.str (b3S (x-256).toNat)))),some (.v o)]).bind fun l=>mkV (.tuple l)) f)))
 else some (.next,f R)
noncomputable def gX:List Int:=[0,256,265,288]++((List.range 48).map fun (k:Nat)=>(7+k:Int))++((List.range 200).map fun (k:Nat)=>(56+k:Int))++unT.map (256+·)++(spT.map fun s=>(List.range 16).map fun (k:Nat)=>(256+(s+k):Int)).flatten
theorem aHt (b:List Nat)(I R:List PV)(W:PV)(t:List Nat)(o:PV):(gX.map fun x=>ex (reG n) (stm rbB 4) (sr4 b I R x W (.str t) o))=aH gX fun x=>EM x R t o fun R=>sr4 b I R x W (.str t) o:=by kernel_rfl
theorem aHu (b:List Nat)(R:List PV)(x:Int)(W t o:PV):ex (reG n) (stm reB 4) (sr4 b [] R x W t o)=jJ ((bif bG R.length then (pX R none (some (-1)) none).bind fun l=>mkV (.list l) else none)) [(nm "octets",.fz (.bytes b)),(nm "rows",.own R),(nm "x",.fz (.int x)),(nm "told",.fz W),(nm "text",.fz t),(nm "op",.fz o)]:=by kernel_rfl
end
theorem VI {α:Type}(R:List α)(d:α):(-1+((R++[d]).length:Int))=(R.length:Nat):=by
 rw [List.length_append,List.length_singleton,Int.natCast_succ,Int.add_comm (R.length:Int) 1,←Int.add_assoc]
 exact Int.zero_add _
theorem VJ {α:Type}(R:List α)(d:α)(h:R.length≤1000):atI (R++[d]) (-1)=some d:=by
 unfold atI
 rw [show decide ((-1:Int).natAbs≤16777216)=true from rfl,show decide ((0:Int)≤-1)=false from rfl,VI,decide_eq_true (Int.natCast_nonneg _)]
 exact List.getElem?_concat_length
theorem VK {α:Type}(R:List α)(d e:α)(h:R.length≤1000):iB (R++[d]) (-1) e=some (R++[e]):=by
 unfold iB
 rw [show decide ((-1:Int).natAbs≤16777216)=true from rfl,show (decide ((0:Int)≤-1) && decide ((-1:Int)<((R++[d]).length:Nat)))=false from rfl,VI,decide_eq_true (Int.natCast_nonneg _)]
 exact congrArg some (List.set_append_right _ _ (Nat.le_refl _) |>.trans (by rw [Nat.sub_self]; rfl))
noncomputable abbrev Rd:=List PV × List Nat × Int
noncomputable def VL (s:Rd):PV:=.tuple [.str s.2.1,.int s.2.2]
noncomputable def bO (s:Rd):List PV:=s.1++[VL s]
noncomputable def cF (s:Rd)(x:Int):Rd:=bif x==256 then (bO s,[],0) else bif decide (0<x) && decide (x<55) then (s.1,s.2.1,x)
 else bif decide (x≥256) && !eB (x-256) then (s.1,s.2.1++b3S (x-256).toNat,s.2.2) else s
theorem VM (c:Nat):(b3S c).length=1:=by
 unfold b3S
 cases decide (c≥119808) <;> cases (decide (65≤c) && decide (c<91)) <;> rfl
theorem aHv (x:Int)(s:Rd)(f:List PV→Sg)(h1:s.1.length≤900)(h2:s.2.1.length≤900):EM x (bO s) s.2.1 (.int s.2.2) f=some (.next,f (bO (cF s x))):=by
 unfold EM cF
 cases h:x==256
 ·cases h3:decide (0<x) && decide (x<55)
  ·cases h4:decide (x≥256) && !eB (x-256)
   ·rfl
   ·simp only [cond_false,cond_true]
    have e:((cV [cM .Add (some (.v (.str s.2.1))) (some (.v (.str (b3S (x-256).toNat)))),some (.v (.int s.2.2))]).bind fun l=>mkV (.tuple l))=some (.v (.tuple [.str (s.2.1++b3S (x-256).toNat),.int s.2.2])):=by
     show ((cV [((bif bG (s.2.1.length+(b3S (x-256).toNat).length) then some (s.2.1++b3S (x-256).toNat) else none).map PV.str).map EV.v,some (.v (.int s.2.2))]).bind fun l=>mkV (.tuple l))=_
     rw [gV (by rw [VM]; exact Nat.lt_of_le_of_lt h2 (by decide))]
     rfl
    rw [e]
    show thn (thn (thn (dA ((iB (bO s) (-1) (.tuple [.str (s.2.1++b3S (x-256).toNat),.int s.2.2])).map f))))=_
    unfold bO
    rw [VK _ _ _ (by exact Nat.le_trans h1 (by decide))]
    rfl
  ·simp only [cond_false,cond_true]
   show thn (thn (dA ((iB (bO s) (-1) (.tuple [.str s.2.1,.int x])).map f)))=_
   unfold bO
   rw [VK _ _ _ (by exact Nat.le_trans h1 (by decide))]
   rfl
 ·simp only [cond_true]
  rw [oE (by unfold bO; rw [List.length_append,List.length_singleton]; omega)]
  rfl
section
variable (n:Nat)
theorem VN (b:List Nat)(k:Nat)(I:List PV)(x:Nat)(s:Rd)(σ:Sg)(hx:x<64 ^ 4)(hs:(x:Int)∈gX)(h1:s.1.length≤900)(h2:s.2.1.length≤900)
  (hσ:(∃y,σ=sr1 b ((cY k x).map (fun (d:Nat)=>PV.int d)++I) (bO s) y)∨∃y W t o,σ=sr4 b ((cY k x).map (fun (d:Nat)=>PV.int d)++I) (bO s) y W t o) :
  ∃W t o,exs (reG n) rbB σ=some (.next,sr4 b I (bO (cF s x)) x W t o):=by
 refine ⟨gW x,.str s.2.1,.int s.2.2,?_⟩
 have last:ex (reG n) (stm rbB 4) (sr4 b I (bO s) x (gW x) (.str s.2.1) (.int s.2.2))=some (.next,sr4 b I (bO (cF s x)) x (gW x) (.str s.2.1) (.int s.2.2)):=
  (bA (aHt n b I (bO s) (gW x) s.2.1 (.int s.2.2)) hs).trans (aHv x s _ h1 h2)
 have at3:atI (bO s) (-1)=some (VL s):=VJ _ _ (by exact Nat.le_trans h1 (by decide))
 have fin:exs (reG n) (bM rbB 4) (sr4 b I (bO s) x (gW x) (.str s.2.1) (.int s.2.2))=some (.next,sr4 b I (bO (cF s x)) x (gW x) (.str s.2.1) (.int s.2.2)):=by
  refine (aL (b:=rbB) 4 (by kernel_rfl) last).trans ?_
  kernel_rfl
 rcases hσ with ⟨y,rfl⟩ |⟨y,W,t,o,rfl⟩
 ·refine (aL (b:=rbB) 0 (by kernel_rfl) (?_:_=some (Fl.next,sr1 b I (bO s) x))).trans ((aL (b:=rbB) 1 (by kernel_rfl) (aHj n b I _ x)).trans ((aL (b:=rbB) 2 (by kernel_rfl) (?_:_=some (Fl.next,sr2 b I (bO s) x (gW x)))).trans ((aL (b:=rbB) 3 (by kernel_rfl) ?_).trans fin)))
  ·rw [aHh,VC k x I hx]; rfl
  ·rw [aHn,VG,VF]; rfl
  ·rw [aHp,at3]; exact aHr n b I _ x _ _ _
 ·refine (aL (b:=rbB) 0 (by kernel_rfl) (?_:_=some (Fl.next,sr4 b I (bO s) x W t o))).trans ((aL (b:=rbB) 1 (by kernel_rfl) (aHk n b I _ x W t o)).trans ((aL (b:=rbB) 2 (by kernel_rfl) (?_:_=some (Fl.next,sr4 b I (bO s) x (gW x) t o))).trans ((aL (b:=rbB) 3 (by kernel_rfl) ?_).trans fin)))
  ·rw [aHi,VC k x I hx]; rfl
  ·rw [aHo,VG,VF]; rfl
  ·rw [aHq,at3]; exact aHs n b I _ x _ _ _ _ _
theorem aHw (s:Rd)(x:Int):(cF s x).1.length≤s.1.length+1∧(cF s x).2.1.length≤s.2.1.length+1:=by
 unfold cF bO
 cases x==256 <;> cases decide (0<x) && decide (x<55) <;> cases decide (x≥256) && !eB (x-256) <;> simp [VM]
theorem VO {b:List Nat}{l:List PV}{s:Rd}{σ:Sg}(hσ:(∃y:Int,y≠0∧σ=sr1 b l (bO s) y)∨∃(y:Int) (W t o:PV),y≠0∧σ=sr4 b l (bO s) y W t o):rT (reG n) σ=some true:=by
 rcases hσ with ⟨y,hy,rfl⟩ |⟨y,W,t,o,hy,rfl⟩
 ·rw [aHg,beq_eq_false_iff_ne.mpr hy]; rfl
 ·rw [VD,beq_eq_false_iff_ne.mpr hy]; rfl
theorem VP {b:List Nat}{l:List PV}{s:Rd}{σ:Sg}(hσ:(∃y:Int,y≠0∧σ=sr1 b l (bO s) y)∨∃(y:Int) (W t o:PV),y≠0∧σ=sr4 b l (bO s) y W t o):(∃y:Int,σ=sr1 b l (bO s) y)∨∃(y:Int) (W t o:PV),σ=sr4 b l (bO s) y W t o:=
 hσ.elim (fun ⟨y,_,h⟩=>.inl ⟨y,h⟩) fun ⟨y,W,t,o,_,h⟩=>.inr ⟨y,W,t,o,h⟩
noncomputable abbrev oF (k:Nat)(xs:List Nat):List PV:=(bW k (xs++[0])).map fun (d:Nat)=>PV.int d
theorem aHx (k x:Nat)(r:List Nat):oF k (x::r)=(cY k x).map (fun (d:Nat)=>PV.int d)++oF (k+(cY k x).length) r:=by simp [oF,bW]
theorem aHy (b xs:List Nat):∀(k:Nat) (s:Rd) (σ:Sg) (N:Nat),(∀x∈xs,x<64 ^ 4∧(x:Int)∈gX∧x≠0)→xs.length<N→s.1.length+xs.length≤800→s.2.1.length+xs.length≤800 →
  ((∃y:Int,y≠0∧σ=sr1 b (oF k xs) (bO s) y)∨∃(y:Int) (W t o:PV),y≠0∧σ=sr4 b (oF k xs) (bO s) y W t o) →
  ∃W t o,jA (rT (reG n)) (exs (reG n) rbB) (exs (reG n) (bN (stm reB 3))) (N+1) σ=some (.next,sr4 b [] (bO (xs.foldl (fun s (x:Nat)=>cF s x) s)) 0 W t o):=by
 induction xs with
 |nil=>
  intro k s σ N hx hN l1 l2 hσ
  cases N with
  |zero=>cases hN
  |succ N=>
   have ht:=VO (n:=n) hσ
   rw [show oF k []=(cY k 0).map (fun (d:Nat)=>PV.int d)++[] by simp [oF,bW]] at hσ
   obtain ⟨W,t,o,h⟩:=VN n b k [] 0 s σ (by decide) (List.mem_append_left _ (List.mem_append_left _ (List.mem_append_left _ (List.mem_append_left _ (.head _))))) (Nat.le_trans l1 (by decide)) (Nat.le_trans l2 (by decide)) (VP hσ)
   refine ⟨W,t,o,?_⟩
   rw [nJ,ht]
   dsimp only
   rw [h]
   dsimp only
   rw [nJ,VD,show cF s ((0:Nat):Int)=s from rfl]
   kernel_rfl
 |cons x r ih=>
  intro k s σ N hx hN l1 l2 hσ
  cases N with
  |zero=>cases hN
  |succ N=>
   have hx0:=hx x (.head _)
   have ht:=VO (n:=n) hσ
   rw [aHx] at hσ
   have hl:=aHw s x
   rw [List.length_cons] at l1 l2
   obtain ⟨W,t,o,h⟩:=VN n b k _ x s σ hx0.1 hx0.2.1 (by omega) (by omega) (VP hσ)
   obtain ⟨W',t',o',ih⟩:=ih (k+(cY k x).length) (cF s x) _ N (fun z hz=>hx z (.tail _ hz)) (Nat.lt_of_succ_lt_succ hN) (by omega) (by omega) (.inr ⟨x,W,t,o,Int.natCast_ne_zero.mpr hx0.2.2,rfl⟩)
   refine ⟨W',t',o',?_⟩
   rw [nJ,ht]
   dsimp only
   rw [h]
   dsimp only
   rw [ih]
   rfl
end
theorem aHz (a:Nat→PV)(d:PV):pX (aM a++[d]) none (some (-1)) none=some (aM a):=by kernel_rfl
theorem aH0:(unT.all fun x=>eB x)=true:=by decide +kernel
theorem aH1:(unT.all fun x=>decide (0<x))=true:=by decide +kernel
theorem EN (d:Int):unS d∈unT:=by
 obtain ⟨n,hn,e⟩:=rC d (k:=27) (by decide)
 have hlt:n<unT.length:=Nat.lt_of_lt_of_eq (Int.ofNat_lt.mp hn) (show 27=unT.length by decide +kernel)
 unfold unS
 rw [e,List.getD_eq_getElem?_getD,show (n:Int).toNat=n from rfl,List.getElem?_eq_getElem hlt]
 exact List.getElem_mem hlt
theorem aH2 (d:Int):eB (unS d)=true:=List.all_eq_true.mp aH0 _ (EN d)
theorem VQ (d:Int):0<unS d:=of_decide_eq_true (List.all_eq_true.mp aH1 _ (EN d))
theorem aH3 (s:Rd)(x:Int)(h1:55≤x)(h2:x<256):cF s x=s:=by
 unfold cF
 rw [beq_eq_false_iff_ne.mpr (by exact Int.ne_of_lt h2),decide_eq_false (show ¬ x<55 by exact Int.not_lt.mpr h1),decide_eq_false (show ¬ x≥256 by exact Int.not_le.mpr h2)]
 simp
theorem VS (s:Rd)(z:Int)(h:0<z):cF s (256+z)=bif !eB z then (s.1,s.2.1++b3S z.toNat,s.2.2) else s:=by
 have h:(256:Int)<256+z:=Int.lt_add_of_pos_right _ h
 unfold cF
 rw [beq_eq_false_iff_ne.mpr (Int.ne_of_lt h).symm,decide_eq_false (Int.not_lt.mpr (Int.le_trans (show (55:Int)≤256 by decide) (Int.le_of_lt h))),decide_eq_true (show 256+z≥256 from Int.le_of_lt h),show 256+z-256=z by rw [Int.add_comm]; exact Int.add_sub_cancel _ _,Bool.and_false,Bool.true_and]
 rfl
theorem aH4 (s:Rd)(d:Int):cF s (256+unS d)=s:=by
 rw [VS s _ (VQ d),aH2]
 rfl
theorem aH5 (s:Rd)(x:Int)(h1:0<x)(h2:x<55):cF s x=(s.1,s.2.1,x):=by
 unfold cF
 rw [beq_eq_false_iff_ne.mpr (Int.ne_of_lt (Int.lt_trans h2 (by decide))),decide_eq_true h1,decide_eq_true h2]
 rfl
theorem VT (s:Rd)(c:Nat)(h0:0<c)(h:eB c=false):cF s (256+c)=(s.1,s.2.1++b3S c,s.2.2):=by
 rw [VS s c (Int.natCast_pos.mpr h0),h]
 rfl
theorem aH6:(List.range 37).all (fun r=>(ld r).all fun c=>c==32 || c==9)=true:=by decide +kernel
theorem EO {r:Nat}(h:r<37)(c:Nat)(hc:c∈ld r):c=32∨c=9:=by
 have:=List.all_eq_true.mp (List.all_eq_true.mp aH6 r (List.mem_range.mpr h)) c hc
 simpa using this
theorem VU:∀(l:List Nat) (s:Rd),(∀c∈l,c=32∨c=9)→(l.map fun (c:Nat)=>(256+c:Int)).foldl cF s=(s.1,s.2.1++l,s.2.2)
 |[],s,_=>by simp
 |c::r,s,h=>by
  have hc:0<c∧eB c=false∧b3S c=[c]:=by
   rcases h c (.head _) with rfl |rfl <;> exact ⟨by decide,rfl,rfl⟩
  rw [List.map_cons,List.foldl_cons,VT s c hc.1 hc.2.1,hc.2.2,VU r _ fun z hz=>h z (.tail _ hz)]
  simp
theorem aH7:((List.range 12).all fun i=>(List.range 16).all fun k=>!eB (spT.getD i 0+k) && b3S (spT.getD i 0+k).toNat==[97+k] && decide (0<spT.getD i 0+k))=true:=by decide +kernel
theorem aH8 (t d:Int)(h0:0≤t)(h1:t<16):∃c:Nat,spS t d=c∧0<c∧eB c=false∧b3S c=[97+t.toNat]:=by
 obtain ⟨n,hn,en⟩:=rC d (k:=12) (by decide)
 obtain ⟨k,rfl⟩:=Int.eq_ofNat_of_zero_le h0
 have g:=List.all_eq_true.mp (List.all_eq_true.mp aH7 n (List.mem_range.mpr (Int.ofNat_lt.mp hn))) k (List.mem_range.mpr (Int.ofNat_lt.mp h1))
 obtain ⟨g,g3⟩:=Bool.and_eq_true_iff.mp g
 obtain ⟨g1,g2⟩:=Bool.and_eq_true_iff.mp g
 have e:spS k d=spT.getD n 0+k:=by unfold spS; rw [en]; rfl
 generalize spT.getD n 0+(k:Int)=z at g1 g2 g3 e
 obtain ⟨c,rfl⟩:=Int.eq_ofNat_of_zero_le (Int.le_of_lt (of_decide_eq_true g3))
 exact ⟨c,e,Int.natCast_pos.mp (of_decide_eq_true g3),(Bool.not_eq_true' _).mp g1,eq_of_beq g2⟩
theorem aH9 (r:Nat)(d t:Int)(hr:r<37)(ht:t<0∨(0≤t∧t<16))(l:List PV):(syA r d++syB d t).foldl cF (l,[],0)=(l++[rwP r d t],[],0):=by
 obtain ⟨m1,m2⟩:=eS d (k:=200) (by decide)
 obtain ⟨m3,m4⟩:=eS d (k:=48) (by decide)
 unfold syA
 rw [List.append_assoc,List.foldl_append,List.foldl_append,List.foldl_cons,List.foldl_cons,List.foldl_nil,aH3 _ (255-d.fmod 200) (by omega) (by omega),aH4,VU _ _ fun c hc=>EO hr c hc]
 rcases ht with h |⟨h0,h1⟩
 ·simp only [syB,rwP,decide_eq_true h,cond_true,List.foldl_cons,List.foldl_nil,List.nil_append]
  rw [aH5 _ (7+d.fmod 48) (by omega) (by omega)]
  rfl
 ·obtain ⟨c,e,c0,c1,c2⟩:=aH8 t d h0 h1
  simp only [syB,rwP,decide_eq_false (show ¬ t<0 by exact Int.not_lt.mpr h0),cond_false,List.foldl_cons,List.foldl_nil,List.nil_append]
  rw [e,VT _ c c0 c1,c2]
  rfl
theorem VV (r:Nat→Nat)(p k:Nat→Int)(hr:∀i,r i<37)(hk:∀i,k i<0∨(0≤k i∧k i<16)):∀(is:List Nat) (l:List PV),(eT r p k is).foldl cF (l,[],0)=(l++is.map fun i=>rwP (r i) (p i) (k i),[],0)
 |[],l=>by simp [eT]
 |i::is,l=>by
  have:=VV r p k hr hk is (l++[rwP (r i) (p i) (k i)])
  simp only [eT,List.flatMap_cons,List.foldl_append] at this ⊢
  have h:=aH9 (r i) (p i) (k i) (hr i) (hk i) l
  rw [List.foldl_append] at h
  rw [h,this]
  simp
theorem VW:gX.all (fun x=>decide (x<64 ^ 4))=true:=by decide +kernel
noncomputable abbrev OkS (x:Int):Prop:=x∈gX∧0<x
theorem xP {x:Int}(h:x∈[0,256,265,288]):x∈gX:=List.mem_append_left _ (List.mem_append_left _ (List.mem_append_left _ (List.mem_append_left _ h)))
theorem aHA {x:Int}(h:x∈(List.range 48).map fun (k:Nat)=>(7+k:Int)):x∈gX:=List.mem_append_left _ (List.mem_append_left _ (List.mem_append_left _ (List.mem_append_right _ h)))
theorem aHB {x:Int}(h:x∈(List.range 200).map fun (k:Nat)=>(56+k:Int)):x∈gX:=List.mem_append_left _ (List.mem_append_left _ (List.mem_append_right _ h))
theorem aHC {x:Int}(h:x∈unT):256+x∈gX:=List.mem_append_left _ (List.mem_append_right _ (List.mem_map.mpr ⟨x,h,rfl⟩))
theorem aHD {s:Int}{k:Nat}(h:s∈spT)(hk:k<16):(256+(s+k):Int)∈gX:=
 List.mem_append_right _ (List.mem_flatten.mpr ⟨_,List.mem_map.mpr ⟨s,h,rfl⟩,List.mem_map.mpr ⟨k,List.mem_range.mpr hk,rfl⟩⟩)
theorem aHE:spT.all (fun x=>decide (0<x))=true:=by decide +kernel
theorem aHF {n:Nat}(h:n<48):OkS (7+(n:Int)):=⟨aHA (List.mem_map.mpr ⟨n,List.mem_range.mpr h,rfl⟩),Int.add_pos_of_pos_of_nonneg (by decide) (Int.natCast_nonneg n)⟩
theorem aHG {n:Nat}(h:n<200):OkS (255-(n:Int)):=by
 have e:(56+((199-n:Nat):Int))=255-n:=by omega
 exact ⟨aHB (List.mem_map.mpr ⟨199-n,List.mem_range.mpr (Nat.lt_of_le_of_lt (Nat.sub_le _ _) (by decide)),e⟩),e▸Int.add_pos_of_pos_of_nonneg (by decide) (Int.natCast_nonneg _)⟩
theorem aHH (r:Nat)(d t:Int)(hr:r<37)(ht:t<0∨(0≤t∧t<16)):∀x∈syA r d++syB d t,OkS x:=by
 intro x hx
 rcases List.mem_append.mp hx with hx |hx
 ·rcases List.mem_append.mp hx with hx |hx
  ·simp only [List.mem_cons,List.not_mem_nil,or_false] at hx
   rcases hx with rfl |rfl
   ·obtain ⟨n,hn,en⟩:=rC d (k:=200) (by decide)
    rw [en]
    exact aHG (Int.ofNat_lt.mp hn)
   ·exact ⟨aHC (EN _),Int.add_pos (by decide) (VQ _)⟩
  ·obtain ⟨c,hc,rfl⟩:=List.mem_map.mp hx
   rcases EO hr c hc with rfl |rfl
   ·exact ⟨xP (by decide),by decide⟩
   ·exact ⟨xP (by decide),by decide⟩
 ·unfold syB at hx
  rcases ht with h |⟨h0,h1⟩
  ·rw [decide_eq_true h] at hx
   simp only [cond_true,List.mem_cons,List.not_mem_nil,or_false] at hx
   rcases hx with rfl |rfl
   ·obtain ⟨n,hn,en⟩:=rC d (k:=48) (by decide)
    rw [en]
    exact aHF (Int.ofNat_lt.mp hn)
   ·exact ⟨xP (by decide),by decide⟩
  ·rw [decide_eq_false (show ¬ t<0 by exact Int.not_lt.mpr h0)] at hx
   simp only [cond_false,List.mem_cons,List.not_mem_nil,or_false] at hx
   rcases hx with rfl |rfl
   ·obtain ⟨n,hn,en⟩:=rC d (k:=12) (by decide)
    obtain ⟨k,rfl⟩:=Int.eq_ofNat_of_zero_le h0
    have hlt:n<spT.length:=Nat.lt_of_lt_of_eq (Int.ofNat_lt.mp hn) (show 12=spT.length by decide +kernel)
    have hm:spT.getD n 0∈spT:=by rw [List.getD_eq_getElem?_getD,List.getElem?_eq_getElem hlt]; exact List.getElem_mem hlt
    have e:spS k d=spT.getD n 0+k:=by unfold spS; rw [en]; rfl
    rw [e]
    exact ⟨aHD hm (Int.ofNat_lt.mp h1),Int.add_pos (by decide) (Int.add_pos_of_pos_of_nonneg (of_decide_eq_true (List.all_eq_true.mp aHE _ hm)) (Int.natCast_nonneg _))⟩
   ·exact ⟨xP (by decide),by decide⟩
theorem EP (r:Nat→Nat)(p k:Nat→Int)(hr:∀i,r i<37)(hk:∀i,k i<0∨(0≤k i∧k i<16))(is:List Nat):∀x∈eT r p k is,OkS x:=by
 intro x hx
 obtain ⟨i,_,hx⟩:=List.mem_flatMap.mp hx
 exact aHH _ _ _ (hr i) (hk i) x hx
noncomputable def dD (r:Nat→Nat)(p k:Nat→Int):List Nat:=(eT r p k is7).map Int.toNat
theorem aHI (n:Nat)(r:Nat→Nat)(p k:Nat→Int)(hr:∀i,r i<37)(hk:∀i,k i<0∨(0≤k i∧k i<16)):(O (n+2)).call rA [.bytes (bW 0 (dD r p k++[0]))]=some (.list (is7.map fun i=>rwP (r i) (p i) (k i))):=by
 refine gQ (D:=df rA) (by kernel_rfl) (by kernel_rfl) (by kernel_rfl) ?_
 show dH (exs (reG n) reB _)=_
 have hl:=xL r p k hr is7
 rw [show is7.length=6 from rfl] at hl
 have h3:∃W t o,ex (reG n) (stm reB 3) (sr1 (bW 0 (dD r p k++[0])) ((bW 0 (dD r p k++[0])).map fun c=>.int (Int.ofNat c)) [.tuple [.str [],.int 0]] 1)=some (.next,sr4 (bW 0 (dD r p k++[0])) [] ((is7.map fun i=>rwP (r i) (p i) (k i))++[.tuple [.str [],.int 0]]) 0 W t o):=by
  have hx:∀x∈dD r p k,x<64 ^ 4∧(x:Int)∈gX∧x≠0:=by
   intro x hx
   unfold dD at hx
   obtain ⟨y,hy,rfl⟩:=List.mem_map.mp hx
   have:=EP r p k hr hk is7 y hy
   have lt:=of_decide_eq_true (List.all_eq_true.mp VW y this.1)
   have e:((y.toNat:Nat):Int)=y:=by have:=this.2; omega
   exact ⟨by omega,by rw [e]; exact this.1,by have:=this.2; omega⟩
  have hn:(dD r p k).length≤70:=by unfold dD; rw [List.length_map]; exact Nat.le_trans hl (by decide)
  obtain ⟨W,t,o,h⟩:=aHy n (bW 0 (dD r p k++[0])) (dD r p k) 0 ([],[],0) _ 199 hx (by exact Nat.lt_of_le_of_lt hn (by decide)) (by simp only [List.length_nil]; omega) (by simp only [List.length_nil]; omega) (.inl ⟨1,by decide,rfl⟩)
  refine ⟨W,t,o,?_⟩
  rw [aHf]
  refine h.trans ?_
  have e:(dD r p k).foldl (fun s (x:Nat)=>cF s x) (([],[],0):Rd)=(eT r p k is7).foldl cF ([],[],0):=by
   unfold dD
   rw [List.foldl_map]
   have:∀(l:List Int) (s:Rd),(∀x∈l,0≤x)→l.foldl (fun s (y:Int)=>cF s (y.toNat:Int)) s=l.foldl cF s:=by
    intro l
    induction l with
    |nil=>intro s _; rfl
    |cons x l ih=>
     intro s hx
     rw [List.foldl_cons,List.foldl_cons,show ((x.toNat:Nat):Int)=x by have:=hx x (.head _); exact Int.toNat_of_nonneg this]
     exact ih _ fun z hz=>hx z (.tail _ hz)
   exact this _ _ fun x hx=>by have:=(EP r p k hr hk is7 x hx).2; exact Int.le_of_lt this
  rw [e,VV r p k hr hk]
  rfl
 obtain ⟨W,t,o,h3⟩:=h3
 have e0:dB (df rA).params [.bytes (bW 0 (dD r p k++[0]))]=[(nm "octets",.fz (.bytes (bW 0 (dD r p k++[0]))))]:=by kernel_rfl
 rw [e0,aHe,aL (b:=reB) 3 (by kernel_rfl) h3]
 have h4:=aHu n (bW 0 (dD r p k++[0])) ((is7.map fun i=>rwP (r i) (p i) (k i))++[.tuple [.str [],.int 0]]) (0:Int) W t o
 rw [show pX ((is7.map fun i=>rwP (r i) (p i) (k i))++[.tuple [.str [],.int 0]]) none (some (-1)) none=some (is7.map fun i=>rwP (r i) (p i) (k i)) from aHz (fun i=>rwP (r i) (p i) (k i)) _] at h4
 rw [mK (b:=reB) (d:=.list (is7.map fun i=>rwP (r i) (p i) (k i))) 4 (by kernel_rfl) h4]
 rfl
noncomputable def inD:Df:=mdf qC
noncomputable def inB:List S:=inD.body
noncomputable def chB:List S:=cD (stm inB 4)
noncomputable def tZ (K:List (PySem.Str × NameKind))(t:Tg)(body:Sg→Rs):List PV→Sg→Option Sg
 |[],σ=>some σ
 |d::r,σ=>match bK K t d σ with
  |none=>none
  |some σ=>match body σ with
   |some (.next,σ)=>tZ K t body r σ
   |_=>none
theorem aHJ (K:List (PySem.Str × NameKind))(t:Tg)(body:Sg→Rs)(d:PV)(r:List PV)(σ:Sg):tZ K t body (d::r) σ=match bK K t d σ with
  |none=>none
  |some σ=>match body σ with
   |some (.next,σ)=>tZ K t body r σ
   |_=>none:=rfl
theorem EQ {K:List (PySem.Str × NameKind)}{t:Tg}{body els:Sg→Rs}{ys:List PV}{σ':Sg}:∀(xs:List PV) (σ:Sg),tZ K t body xs σ=some σ'→forLoop K t body els (xs++ys) σ=forLoop K t body els ys σ'
 |[],σ,h=>by cases h; rfl
 |d::r,σ,h=>by
  rw [aHJ] at h
  rw [List.cons_append,fJ]
  cases hb:bK K t d σ with
  |none=>rw [hb] at h; cases h
  |some σ1=>
   rw [hb] at h
   simp only at h ⊢
   cases hx:body σ1 with
   |none=>rw [hx] at h; cases h
   |some q=>
    obtain ⟨f,σ2⟩:=q
    rw [hx] at h
    cases f <;> first |exact EQ r σ2 h |cases h
noncomputable def wsC (s:List Nat):List Int × Int × Int × Int:=s.foldl (fun w c=>bif c==32 then (w.1,w.2.1+1,w.2.2.1+1,w.2.2.2)
 else
  let l:=bif decide (w.2.1≥w.1.length) then w.1++List.replicate (w.2.1-w.1.length+1).toNat 0 else w.1
  (l.set w.2.1.toNat (l.getD w.2.1.toNat 0+1),0,w.2.2.1+1,w.2.2.2+1)) ([],0,0,0)
noncomputable def wC (r:Nat):List Int:=(wsC (ld r)).1
noncomputable def wb (r:Nat):Int:=(wsC (ld r)).2.1
noncomputable def wn (r:Nat):Int:=(wsC (ld r)).2.2.1
noncomputable def wt (r:Nat):Int:=(wsC (ld r)).2.2.2
section
variable (c m:Nm→List PV→Option PV)
noncomputable abbrev inG:Gl:=GD c m inD
noncomputable abbrev wi4 (text:List Nat)(l:List PV)(b n t:Int)(X:Sg):Sg:=[(nm "self",.self [(nm "raw",.str text)]),(nm "ws",.fz (.str text)),(nm "S",.fz (.str [32])),(nm "T",.fz (.str [9])),(nm "count",.own l),(nm "b",.fz (.int b)),(nm "n",.fz (.int n)),(nm "nt",.fz (.int t))]++X
theorem aHK (text:List Nat):exs (inG c m) inB [(nm "self",.self []),(nm "ws",.fz (.str text))]=exs (inG c m) (bM inB 4) (wi4 text [] 0 0 0 []):=by
 refine (aL (b:=inB) 0 (by kernel_rfl) (?_:_=some (Fl.next,[(nm "self",.self [(nm "raw",.str text)]),(nm "ws",.fz (.str text))]))).trans
   ((aL (b:=inB) 1 (by kernel_rfl) (?_:_=some (Fl.next,[(nm "self",.self [(nm "raw",.str text)]),(nm "ws",.fz (.str text)),(nm "S",.fz (.str [32])),(nm "T",.fz (.str [9]))]))).trans
  ((aL (b:=inB) 2 (by kernel_rfl) (?_:_=some (Fl.next,[(nm "self",.self [(nm "raw",.str text)]),(nm "ws",.fz (.str text)),(nm "S",.fz (.str [32])),(nm "T",.fz (.str [9])),(nm "count",.own [])]))).trans
     (aL (b:=inB) 3 (by kernel_rfl) ?_))) <;> kernel_rfl
theorem VX (text:List Nat):ex (inG c m) (stm inB 4) (wi4 text [] 0 0 0 [])=forLoop (inG c m).sc (bI (stm inB 4)) (exs (inG c m) chB) (exs (inG c m) (bN (stm inB 4))) (text.map fun x=>.str [x]) (wi4 text [] 0 0 0 []):=by kernel_rfl
noncomputable def chX (r:Nat):Sg:=match (ld r).getLast? with
 |none=>[]
 |some x=>[(nm "ch",.fz (.str [x]))]
theorem aHL (text:List Nat):(List.range 37).map (fun r=>tZ (inG c m).sc (bI (stm inB 4)) (exs (inG c m) chB) ((ld r).map fun x=>.str [x]) (wi4 text [] 0 0 0 []))=(List.range 37).map fun r=>some (wi4 text ((wC r).map .int) (wb r) (wn r) (wt r) (chX r)):=by kernel_rfl
noncomputable def eqR (x y:Nat):Option Bool:=trV (qA [.Eq] (some (.v (.str [x]))) [some (.v (.str [y]))])
theorem aHM (text:List Nat)(l:List PV)(b n t:Int)(x:Nat):exs (inG c m) chB (wi4 text l b n t [(nm "ch",.fz (.str [x]))]) =
  thn (ifC (eqR x 32) (exs (inG c m) (cD (stm chB 0)) (wi4 text l b n t [(nm "ch",.fz (.str [x]))])) (thn (ifC (eqR x 9) (exs (inG c m) (cD (stm (bN (stm chB 0)) 0)) (wi4 text l b n t [(nm "ch",.fz (.str [x]))])) (some (.brk,wi4 text l b n t [(nm "ch",.fz (.str [x]))]))))):=by kernel_rfl
theorem aHN:(List.range 16).map (fun t=>(eqR (97+t) 32,eqR (97+t) 9))=(List.range 16).map fun t=>(some false,some false):=by kernel_rfl
theorem aHO (text:List Nat)(l:List PV)(b n t:Int)(x:Nat):bK (inG c m).sc (bI (stm inB 4)) (.str [x]) (wi4 text l b n t [])=some (wi4 text l b n t [(nm "ch",.fz (.str [x]))]):=by kernel_rfl
theorem aHP (text:List Nat)(l:List PV)(b n t:Int)(x y:Nat):bK (inG c m).sc (bI (stm inB 4)) (.str [x]) (wi4 text l b n t [(nm "ch",.fz (.str [y]))])=some (wi4 text l b n t [(nm "ch",.fz (.str [x]))]):=by kernel_rfl
noncomputable def wI (text:List Nat)(r:Nat):List (List Nat × PV):=[(nm "raw",.str text),(nm "n",.int (wn r)),(nm "nt",.int (wt r)),(nm "norm",.tuple [.tuple ((wC r).map .int),.int (wb r)]),(nm "is_simple",.bool (decide (((wC r).length:Int)≤1)))]
noncomputable def wE (text:List Nat)(r:Nat)(X:Sg):Sg:=[(nm "self",.self (wI text r)),(nm "ws",.fz (.str text)),(nm "S",.fz (.str [32])),(nm "T",.fz (.str [9])),(nm "count",.own ((wC r).map .int)),(nm "b",.fz (.int (wb r))),(nm "n",.fz (.int (wn r))),(nm "nt",.fz (.int (wt r)))]++X
theorem aHQ (text:List Nat)(X:Sg):(List.range 37).map (fun r=>exs (inG c m) (bM inB 5) (wi4 text ((wC r).map .int) (wb r) (wn r) (wt r) X))=(List.range 37).map fun r=>some (.next,wE text r X):=by kernel_rfl
theorem aHR (σ:Sg):exs (inG c m) (bN (stm inB 4)) σ=some (.next,σ):=by kernel_rfl
theorem aHS {r:Nat}(hr:r<37)(rest:List Nat)(h:rest=[]∨∃t,t<16∧rest=[97+t]):∃X,exs (inG c m) inB [(nm "self",.self []),(nm "ws",.fz (.str (ld r++rest)))]=some (.next,wE (ld r++rest) r X):=by
 have h4:∃X,ex (inG c m) (stm inB 4) (wi4 (ld r++rest) [] 0 0 0 [])=some (.next,wi4 (ld r++rest) ((wC r).map .int) (wb r) (wn r) (wt r) X):=by
  have e:=oC (aHL c m (ld r++rest)) hr
  rcases h with rfl |⟨t,ht,rfl⟩
  ·refine ⟨chX r,?_⟩
   rw [VX,List.map_append,EQ _ _ e]
   exact aHR c m _
  ·refine ⟨[(nm "ch",.fz (.str [97+t]))],?_⟩
   rw [VX,List.map_append,EQ _ _ e]
   have hb:bK (inG c m).sc (bI (stm inB 4)) (.str [97+t]) (wi4 (ld r++[97+t]) ((wC r).map .int) (wb r) (wn r) (wt r) (chX r))=some (wi4 (ld r++[97+t]) ((wC r).map .int) (wb r) (wn r) (wt r) [(nm "ch",.fz (.str [97+t]))]):=by
    unfold chX
    cases (ld r).getLast? with
    |none=>exact aHO c m _ _ _ _ _ _
    |some x=>exact aHP c m _ _ _ _ _ _ _
   have:=oC aHN ht
   simp only [Prod.mk.injEq] at this
   simp only [List.map_cons,List.map_nil,fJ,aCz,hb,aHM,this.1,this.2]
   rfl
 obtain ⟨X,h4⟩:=h4
 refine ⟨X,?_⟩
 rw [aHK,aL (b:=inB) 4 (by kernel_rfl) h4]
 exact oC (aHQ c m (ld r++rest) X) hr
end
theorem VY (n:Nat){r:Nat}(hr:r<37)(rest:List Nat)(h:rest=[]∨∃t,t<16∧rest=[97+t]):(O (n+1)).call fR [.str (ld r++rest)]=some (.inst (wI (ld r++rest) r)):=by
 obtain ⟨X,h⟩:=aHS (O n).call (O n).meth hr rest h
 have e:(O (n+1)).call fR [.str (ld r++rest)]=QJ (nm "self") (exs (inG (O n).call (O n).meth) inB [(nm "self",.self []),(nm "ws",.fz (.str (ld r++rest)))]):=by kernel_rfl
 rw [e,h]
 kernel_rfl
noncomputable def lrP (r:Nat):Int:=bif decide (((wC r).length:Int)-1<wb r) then wb r else (wC r).length-1
noncomputable def ilP (r:Nat)(ts:Int):Int:=wb r+ts*((((List.range (wC r).length).filter fun (i:Nat)=>decide (ts≤(i:Int))).foldl (fun (s:Int) (i:Nat)=>s+((i:Int).fdiv ts)*(wC r).getD i 0) 0)+wt r)
noncomputable def ts4:List Int:=[1,2,3,4,5]
noncomputable def nlP (r q:Nat):PV:=.list (((ts4.filter fun k=>decide (k≤(bif decide (lrP r<lrP q) then lrP q else lrP r)+1)).filter fun k=>decide (ilP r k≥ilP q k)).map fun k=>.tuple [.int k,.int (ilP r k),.int (ilP q k)])
noncomputable def bC:Nm:=nm "not_less_witness"
noncomputable def aHT (r:Nat):Prop:=∀(n:Nat) (ta tb:List Nat),(List.range 37).map (fun q=>(O (n+2)).meth bC [.inst (wI ta r),.inst (wI tb q)])=aH (List.range 37) fun q=>some (nlP r q)
section
variable (n:Nat)(ta tb:List Nat)
theorem aHU:(List.range 37).map (fun q=>(O (n+2)).meth bC [.inst (wI ta 0),.inst (wI tb q)])=aH (List.range 37) fun q=>some (nlP 0 q):=by kernel_rfl
theorem aHV:(List.range 37).map (fun q=>(O (n+2)).meth bC [.inst (wI ta 1),.inst (wI tb q)])=aH (List.range 37) fun q=>some (nlP 1 q):=by kernel_rfl
theorem aHW:(List.range 37).map (fun q=>(O (n+2)).meth bC [.inst (wI ta 2),.inst (wI tb q)])=aH (List.range 37) fun q=>some (nlP 2 q):=by kernel_rfl
theorem aHX:(List.range 37).map (fun q=>(O (n+2)).meth bC [.inst (wI ta 3),.inst (wI tb q)])=aH (List.range 37) fun q=>some (nlP 3 q):=by kernel_rfl
theorem aHY:(List.range 37).map (fun q=>(O (n+2)).meth bC [.inst (wI ta 4),.inst (wI tb q)])=aH (List.range 37) fun q=>some (nlP 4 q):=by kernel_rfl
theorem aHZ:(List.range 37).map (fun q=>(O (n+2)).meth bC [.inst (wI ta 5),.inst (wI tb q)])=aH (List.range 37) fun q=>some (nlP 5 q):=by kernel_rfl
theorem aIa:(List.range 37).map (fun q=>(O (n+2)).meth bC [.inst (wI ta 6),.inst (wI tb q)])=aH (List.range 37) fun q=>some (nlP 6 q):=by kernel_rfl
theorem aIb:(List.range 37).map (fun q=>(O (n+2)).meth bC [.inst (wI ta 7),.inst (wI tb q)])=aH (List.range 37) fun q=>some (nlP 7 q):=by kernel_rfl
theorem aIc:(List.range 37).map (fun q=>(O (n+2)).meth bC [.inst (wI ta 8),.inst (wI tb q)])=aH (List.range 37) fun q=>some (nlP 8 q):=by kernel_rfl
theorem aId:(List.range 37).map (fun q=>(O (n+2)).meth bC [.inst (wI ta 9),.inst (wI tb q)])=aH (List.range 37) fun q=>some (nlP 9 q):=by kernel_rfl
theorem aIe:(List.range 37).map (fun q=>(O (n+2)).meth bC [.inst (wI ta 10),.inst (wI tb q)])=aH (List.range 37) fun q=>some (nlP 10 q):=by kernel_rfl
theorem aIf:(List.range 37).map (fun q=>(O (n+2)).meth bC [.inst (wI ta 11),.inst (wI tb q)])=aH (List.range 37) fun q=>some (nlP 11 q):=by kernel_rfl
theorem aIg:(List.range 37).map (fun q=>(O (n+2)).meth bC [.inst (wI ta 12),.inst (wI tb q)])=aH (List.range 37) fun q=>some (nlP 12 q):=by kernel_rfl
theorem aIh:(List.range 37).map (fun q=>(O (n+2)).meth bC [.inst (wI ta 13),.inst (wI tb q)])=aH (List.range 37) fun q=>some (nlP 13 q):=by kernel_rfl
theorem aIi:(List.range 37).map (fun q=>(O (n+2)).meth bC [.inst (wI ta 14),.inst (wI tb q)])=aH (List.range 37) fun q=>some (nlP 14 q):=by kernel_rfl
theorem aIj:(List.range 37).map (fun q=>(O (n+2)).meth bC [.inst (wI ta 15),.inst (wI tb q)])=aH (List.range 37) fun q=>some (nlP 15 q):=by kernel_rfl
theorem aIk:(List.range 37).map (fun q=>(O (n+2)).meth bC [.inst (wI ta 16),.inst (wI tb q)])=aH (List.range 37) fun q=>some (nlP 16 q):=by kernel_rfl
theorem aIl:(List.range 37).map (fun q=>(O (n+2)).meth bC [.inst (wI ta 17),.inst (wI tb q)])=aH (List.range 37) fun q=>some (nlP 17 q):=by kernel_rfl
theorem aIm:(List.range 37).map (fun q=>(O (n+2)).meth bC [.inst (wI ta 18),.inst (wI tb q)])=aH (List.range 37) fun q=>some (nlP 18 q):=by kernel_rfl
theorem aIn:(List.range 37).map (fun q=>(O (n+2)).meth bC [.inst (wI ta 19),.inst (wI tb q)])=aH (List.range 37) fun q=>some (nlP 19 q):=by kernel_rfl
theorem aIo:(List.range 37).map (fun q=>(O (n+2)).meth bC [.inst (wI ta 20),.inst (wI tb q)])=aH (List.range 37) fun q=>some (nlP 20 q):=by kernel_rfl
theorem aIp:(List.range 37).map (fun q=>(O (n+2)).meth bC [.inst (wI ta 21),.inst (wI tb q)])=aH (List.range 37) fun q=>some (nlP 21 q):=by kernel_rfl
theorem aIq:(List.range 37).map (fun q=>(O (n+2)).meth bC [.inst (wI ta 22),.inst (wI tb q)])=aH (List.range 37) fun q=>some (nlP 22 q):=by kernel_rfl
theorem aIr:(List.range 37).map (fun q=>(O (n+2)).meth bC [.inst (wI ta 23),.inst (wI tb q)])=aH (List.range 37) fun q=>some (nlP 23 q):=by kernel_rfl
theorem aIs:(List.range 37).map (fun q=>(O (n+2)).meth bC [.inst (wI ta 24),.inst (wI tb q)])=aH (List.range 37) fun q=>some (nlP 24 q):=by kernel_rfl
theorem aIt:(List.range 37).map (fun q=>(O (n+2)).meth bC [.inst (wI ta 25),.inst (wI tb q)])=aH (List.range 37) fun q=>some (nlP 25 q):=by kernel_rfl
theorem aIu:(List.range 37).map (fun q=>(O (n+2)).meth bC [.inst (wI ta 26),.inst (wI tb q)])=aH (List.range 37) fun q=>some (nlP 26 q):=by kernel_rfl
theorem aIv:(List.range 37).map (fun q=>(O (n+2)).meth bC [.inst (wI ta 27),.inst (wI tb q)])=aH (List.range 37) fun q=>some (nlP 27 q):=by kernel_rfl
theorem aIw:(List.range 37).map (fun q=>(O (n+2)).meth bC [.inst (wI ta 28),.inst (wI tb q)])=aH (List.range 37) fun q=>some (nlP 28 q):=by kernel_rfl
theorem aIx:(List.range 37).map (fun q=>(O (n+2)).meth bC [.inst (wI ta 29),.inst (wI tb q)])=aH (List.range 37) fun q=>some (nlP 29 q):=by kernel_rfl
theorem aIy:(List.range 37).map (fun q=>(O (n+2)).meth bC [.inst (wI ta 30),.inst (wI tb q)])=aH (List.range 37) fun q=>some (nlP 30 q):=by kernel_rfl
theorem aIz:(List.range 37).map (fun q=>(O (n+2)).meth bC [.inst (wI ta 31),.inst (wI tb q)])=aH (List.range 37) fun q=>some (nlP 31 q):=by kernel_rfl
theorem aI0:(List.range 37).map (fun q=>(O (n+2)).meth bC [.inst (wI ta 32),.inst (wI tb q)])=aH (List.range 37) fun q=>some (nlP 32 q):=by kernel_rfl
theorem aI1:(List.range 37).map (fun q=>(O (n+2)).meth bC [.inst (wI ta 33),.inst (wI tb q)])=aH (List.range 37) fun q=>some (nlP 33 q):=by kernel_rfl
theorem aI2:(List.range 37).map (fun q=>(O (n+2)).meth bC [.inst (wI ta 34),.inst (wI tb q)])=aH (List.range 37) fun q=>some (nlP 34 q):=by kernel_rfl
theorem aI3:(List.range 37).map (fun q=>(O (n+2)).meth bC [.inst (wI ta 35),.inst (wI tb q)])=aH (List.range 37) fun q=>some (nlP 35 q):=by kernel_rfl
theorem aI4:(List.range 37).map (fun q=>(O (n+2)).meth bC [.inst (wI ta 36),.inst (wI tb q)])=aH (List.range 37) fun q=>some (nlP 36 q):=by kernel_rfl
end
theorem aI5:∀k∈List.range 37,aHT k:=by
 rw [show List.range 37=[0,1,2,3,4,5,6,7,8,9,10,11,12,13,14,15,16,17,18,19,20,21,22,23,24,25,26,27,28,29,30,31,32,33,34,35,36] from rfl]
 simp only [List.forall_mem_cons]
 exact ⟨aHU,aHV,aHW,aHX,aHY,aHZ,aIa,aIb,aIc,aId,aIe,aIf,aIg,aIh,aIi,aIj,aIk,aIl,aIm,aIn,aIo,aIp,aIq,aIr,aIs,aIt,aIu,aIv,aIw,aIx,aIy,aIz,aI0,aI1,aI2,aI3,aI4,List.forall_mem_nil _⟩
theorem aI6 (n:Nat)(ta tb:List Nat){r q:Nat}(hr:r<37)(hq:q<37):(O (n+2)).meth bC [.inst (wI ta r),.inst (wI tb q)]=some (nlP r q):=
 cX (aI5 r (List.mem_range.mpr hr) n ta tb) hq
noncomputable def upd {α:Type}(f:Nat→α)(c:Nat)(a:α):Nat→α:=fun j=>bif j==c then a else f j
noncomputable def eM:List (Nat × Nat):=[(1,0),(2,0),(2,1),(3,0),(3,1),(3,2),(4,0),(4,1),(4,2),(4,3),(5,0),(5,1),(5,2),(5,3),(5,4)]
theorem xQ {i c:Nat}(h:c<i)(hi:i<6):(i,c)∈eM:=by
 exact (by decide:∀i∈List.range 6,∀c∈List.range i,(i,c)∈eM) i (List.mem_range.mpr hi) c (List.mem_range.mpr h)
theorem VZ {α:Type}(f:Nat→α)(c:Nat):upd f c (f c)=f:=by
 funext j
 unfold upd
 cases h:j==c
 ·rfl
 ·rw [beq_iff_eq.mp h]; rfl
noncomputable def eU (tx:Nat→List Nat)(o:Nat→Int):List PV:=aM fun i=>.tuple [.str (tx i),.int (o i)]
noncomputable def cN (u:Nat→Int):List PV:=aM fun i=>.int (u i)
noncomputable def lcF (G:Gl)(e:E)(σ:Sg)(d:PV):Option (List PV):=match e with
 |.comp elt g [] sc _=>compTurn sc.names (gen1 {G with sc:=sc.names} g) (jQ sc.names (ev {G with sc:=sc.names} elt) []) (jP sc σ) d
 |_=>none
noncomputable abbrev mM (o:Option EV):Option (List PV):=nG o
noncomputable abbrev evC (b:Option Bool)(x y:Option EV):Option EV:=ifE b x y
noncomputable def nPV (l:List Nat):List PV:=l.map fun (x:Nat)=>.int x
theorem jK (l:List Nat):(nPV l).length=l.length:=by unfold nPV; rw [List.length_map]
noncomputable def aI7 (b:Bool):Option Bool:=bif b then some true else some false
noncomputable def rJ (b:Bool)(d:PV):Option (List PV):=(aI7 b).bind fun b=>bif b then some [d] else some []
theorem uA (b:Bool)(d:PV):rJ b d=some (bif b then [d] else []):=by cases b <;> rfl
noncomputable def WA (o:Option EV):Option Bool:=trV (qA [.Eq] o [some (.v (.list []))])
noncomputable def WB (o:Option Bool)(d:PV):Option (List PV):=(o.bind fun t=>bif t then some true else some false).bind fun b=>bif b then some [d] else some []
theorem aI8 (b:Bool)(d:PV):WB (some b) d=some (bif b then [d] else []):=by cases b <;> rfl
noncomputable def inS (e:E)(σ:Sg)(x:Nm)(d:PV):Sg:=match e with
 |.comp _ _ _ sc _=>aU x (.fz d) (jP sc σ)
 |_=>σ
noncomputable abbrev inC (G:Gl)(e:E):Gl:={G with sc:=scE e}
theorem eV (l:List PV)(h:l.length≤16777216):mkV (.list l)=some (.v (.list l)):=by
 show (bif bG l.length then _ else _)=_
 rw [gV h]; rfl
theorem uB {α:Type}{g:PV→Option (List PV)}{f:α→PV}{k:α→List PV}:∀{l:List α},(∀x∈l,g (f x)=some (k x))→compLoop g (l.map f)=some (l.flatMap k)
 |[],_=>rfl
 |x::r,h=>by
  have ih:=uB (l:=r) fun y hy=>h y (.tail _ hy)
  rw [List.map_cons,nA,h x (.head _),ih,List.flatMap_cons]
theorem fZ {α:Type}{g:PV→Option (List PV)}{f k:α→PV}{l:List α}(h:∀x∈l,g (f x)=some [k x]):compLoop g (l.map f)=some (l.map k):=by
 induction l with
 |nil=>rfl
 |cons x r ih=>rw [List.map_cons,nA,h x (.head _),ih fun y hy=>h y (.tail _ hy)]; rfl
theorem xR {α β:Type}(b:α→Bool)(f:α→β):∀l:List α,l.flatMap (fun x=>bif b x then [f x] else [])=(l.filter b).map f
 |[]=>rfl
 |x::r=>by
  rw [List.flatMap_cons,List.filter_cons,xR b f r]
  cases b x <;> rfl
theorem xS {α:Type}{g:PV→Option (List PV)}{f:α→PV}{b:α→Bool}{l:List α}(h:∀x∈l,g (f x)=some (bif b x then [f x] else [])):compLoop g (l.map f)=some ((l.filter b).map f):=by
 rw [uB h,xR]
theorem xT {K:Ks}{t:Tg}{body els:Sg→Rs}{d:PV}{r:List PV}{σ σ1 σ2:Sg}(h1:bK K t d σ=some σ1)(h2:body σ1=some (.next,σ2)):forLoop K t body els (d::r) σ=forLoop K t body els r σ2:=by
 rw [fJ,h1]
 simp only [h2]
theorem xU {K:Ks}{t:Tg}{body els:Sg→Rs}{d:PV}{r:List PV}{σ σ' σ1:Sg}(h1:bK K t d σ=some σ1)(h2:bK K t d σ'=some σ1):forLoop K t body els (d::r) σ=forLoop K t body els (d::r) σ':=by
 rw [fJ,fJ,h1,h2]
noncomputable def oG:Nm:=nm "_law_witnesses"
noncomputable def wiB:List S:=(df oG).body
noncomputable def wbB:List S:=cD (stm wiB 3)
noncomputable def wA (d:PV)(l:List PV):Sg:=dB [nm "leads",nm "columns",nm "runs"] (d::l)
noncomputable def uC (c:Nat→Nat→Int):PV:=.list (aM fun i=>oD (c i))
section
variable (cc m:Nm→List PV→Option PV)
noncomputable abbrev wiG:Gl:=GD cc m (df oG)
theorem aI9 (l:List PV):ex (wiG cc m) (stm wiB 0) (wA (.list l) [])=eC (wiG cc m) (nm "columns") (aJ (stm wiB 0)) (wA (.list l) []) ((compLoop (lcF (wiG cc m) (aJ (stm wiB 0)) (wA (.list l) [])) l).bind fun l=>mkV (.list l)):=by kernel_rfl
theorem aIA (l d:PV):lcF (wiG cc m) (aJ (stm wiB 0)) (wA l []) d=cR (cc DV [d]):=by kernel_rfl
theorem aIB (l:PV)(c:List PV):eC (wiG cc m) (nm "columns") (aJ (stm wiB 0)) (wA l []) (some (.v (.list c)))=some (.next,wA l [.list c]):=by kernel_rfl
theorem aIC (l:List PV)(c:PV):ex (wiG cc m) (stm wiB 1) (wA (.list l) [c])=eC (wiG cc m) (nm "runs") (aJ (stm wiB 1)) (wA (.list l) [c]) ((compLoop (lcF (wiG cc m) (aJ (stm wiB 1)) (wA (.list l) [c])) l).bind fun l=>mkV (.list l)):=by kernel_rfl
theorem aID (l c:PV):(List.range 37).map (fun r=>lcF (wiG cc m) (aJ (stm wiB 1)) (wA l [c]) (.str (ld r)))=aH (List.range 37) fun r=>some [.int (lrP r)]:=by kernel_rfl
theorem aIE (l c:PV)(r:List PV):eC (wiG cc m) (nm "runs") (aJ (stm wiB 1)) (wA l [c]) (some (.v (.list r)))=some (.next,wA l [c,.list r]):=by kernel_rfl
noncomputable abbrev w3 (l:Nat→PV)(c:Nat→Nat→Int)(r:Nat→Int)(D:List PV)(X:Sg):Sg:=wA (.list (aM l)) [uC c,.list (cN r)]++(nm "due",.own D)::X
theorem aIF (l:Nat→PV)(c:Nat→Nat→Int)(r:Nat→Int):ex (wiG cc m) (stm wiB 2) (wA (.list (aM l)) [uC c,.list (cN r)])=some (.next,w3 l c r [] []):=by kernel_rfl
theorem aIG (l:Nat→PV)(c:Nat→Nat→Int)(r:Nat→Int):ex (wiG cc m) (stm wiB 3) (w3 l c r [] [])=forLoop (wiG cc m).sc (bI (stm wiB 3)) (exs (wiG cc m) wbB) (exs (wiG cc m) (bN (stm wiB 3))) (nPV [0,1,2,3,4,5]) (w3 l c r [] []):=by kernel_rfl
theorem aIH (l:Nat→PV)(c:Nat→Nat→Int)(r:Nat→Int)(D:List PV)(X:Sg):exs (wiG cc m) (bM wiB 4) (w3 l c r D X)=some (.ret (.list D),w3 l c r D X):=by kernel_rfl
noncomputable def wT (y:PV):List Sg:=[[],[(nm "rows",.fz y)]]
noncomputable abbrev wI2 (i:Int)(Y:Sg):Sg:=(nm "i",.fz (.int i))::Y
theorem aII (l:Nat→PV)(c:Nat→Nat→Int)(r:Nat→Int)(D:List PV)(i:Int):bK (wiG cc m).sc (bI (stm wiB 3)) (.int i) (w3 l c r D [])=some (w3 l c r D (wI2 i [])):=by kernel_rfl
theorem WC (l:Nat→PV)(c:Nat→Nat→Int)(r:Nat→Int)(D:List PV)(i i':Int)(Y:Sg):bK (wiG cc m).sc (bI (stm wiB 3)) (.int i) (w3 l c r D (wI2 i' Y))=some (w3 l c r D (wI2 i Y)):=by kernel_rfl
theorem aIJ (l:Nat→PV)(c:Nat→Nat→Int)(r:Nat→Int)(D:List PV)(y:PV):(List.range 6).map (fun (i:Nat)=>(wT y).map fun Y=>ex (wiG cc m) (stm wbB 0) (w3 l c r D (wI2 i Y))) =
  aH (List.range 6) fun (i:Nat)=>aH (wT y) fun Y=>eC (wiG cc m) (nm "rows") (aJ (stm wbB 0)) (w3 l c r D (wI2 i Y)) ((compLoop (lcF (wiG cc m) (aJ (stm wbB 0)) (w3 l c r D (wI2 i Y))) (nPV (List.range i))).bind fun l=>mkV (.list l)):=by kernel_rfl
noncomputable def mxZ (a b:Int):Int:=bif decide (a<b) then b else a
noncomputable def lz3 (v:Int)(x y:Nat→Int):Option EV:=lzE (inC (wiG cc m) (aJ (stm wbB 0))) [some (.v (.int 1)),some (.v (.int v))] (some (.v (oD x))) (some (.v (oD y)))
theorem aIK (l:Nat→PV)(c:Nat→Nat→Int)(r:Nat→Int)(D:List PV)(y:PV):eM.map (fun q=>(wT y).map fun Y=>lcF (wiG cc m) (aJ (stm wbB 0)) (w3 l c r D (wI2 q.1 Y)) (.int q.2)) =
  aH eM fun q=>aH (wT y) fun Y=>mM (lz3 cc m (2+mxZ (r q.1) (r q.2)) (c q.2) (c q.1)):=by kernel_rfl
noncomputable def wtL (n:Nat)(x y:Nat→Int):List PV:=(List.range n).map fun k=>.tuple [.int (k+1:Nat),.int (x k),.int (y k)]
theorem aIL (x y:Nat→Int):(List.range 5).map (fun n=>lz3 cc m (n+2:Nat) x y)=aH (List.range 5) fun n=>some (.v (.list (wtL (n+1) x y))):=by kernel_rfl
theorem aIM (l:Nat→PV)(c:Nat→Nat→Int)(r:Nat→Int)(D:List PV)(i:Int)(y:PV)(t:List PV):(wT y).map (fun Y=>eC (wiG cc m) (nm "rows") (aJ (stm wbB 0)) (w3 l c r D (wI2 i Y)) (some (.v (.list t))))=aH (wT y) fun Y=>some (.next,w3 l c r D (wI2 i [(nm "rows",.fz (.list t))])):=by kernel_rfl
theorem aIN (l:Nat→PV)(c:Nat→Nat→Int)(r:Nat→Int)(D:List PV)(i:Int)(t:List PV):ex (wiG cc m) (stm wbB 1) (w3 l c r D (wI2 i [(nm "rows",.fz (.list t))])) =
  jZ D ((compLoop (lcF (wiG cc m) (aJ (stm wbB 1)) (w3 l c r D (wI2 i [(nm "rows",.fz (.list t))]))) t).bind fun l=>mkV (.list l)) fun D=>w3 l c r D (wI2 i [(nm "rows",.fz (.list t))]):=by kernel_rfl
noncomputable abbrev wS (l:Nat→PV)(c:Nat→Nat→Int)(r:Nat→Int)(D:List PV)(i:Int)(t:List PV):Sg:=w3 l c r D (wI2 i [(nm "rows",.fz (.list t))])
theorem aIO (l:Nat→PV)(c:Nat→Nat→Int)(r:Nat→Int)(D:List PV)(i:Int)(s t:List PV):lcF (wiG cc m) (aJ (stm wbB 1)) (wS l c r D i s) (.list t)=mM ((compLoop (lcF (inC (wiG cc m) (aJ (stm wbB 1))) (kid 0 (aJ (stm wbB 1))) (inS (aJ (stm wbB 1)) (wS l c r D i s) (nm "told") (.list t))) t).bind fun l=>mkV (.list l)):=by kernel_rfl
theorem aIP (l:Nat→PV)(c:Nat→Nat→Int)(r:Nat→Int)(D:List PV)(i:Int)(s t:List PV)(k:PV)(x y:Int):lcF (inC (wiG cc m) (aJ (stm wbB 1))) (kid 0 (aJ (stm wbB 1))) (inS (aJ (stm wbB 1)) (wS l c r D i s) (nm "told") (.list t)) (.tuple [k,.int x,.int y])=rJ (decide (x≥y)) (.tuple [k,.int x,.int y]):=by kernel_rfl
noncomputable def wtF (n:Nat)(x y:Nat→Int):PV:=.list (((List.range n).filter fun k=>decide (x k≥y k)).map fun k=>.tuple [.int (k+1:Nat),.int (x k),.int (y k)])
variable (l:Nat→PV)(c:Nat→Nat→Int)(r:Nat→Int)
noncomputable def wtD (c:Nat→Nat→Int)(q:Nat→Nat→Nat)(i:Nat):PV:=.list ((List.range i).map fun j=>wtF (q i j+1) (c j) (c i))
theorem aIQ {q:Nat→Nat→Nat}(hq:∀i j,mxZ (r i) (r j)=q i j∧q i j<5){i:Nat}(hi:i<6)(D:List PV)(hD:D.length≤100){y:PV}{Y:Sg}(hY:Y∈wT y):exs (wiG cc m) wbB (w3 l c r D (wI2 i Y))=some (.next,wS l c r (D++[wtD c q i]) i ((List.range i).map fun j=>.list (wtL (q i j+1) (c j) (c i)))):=by
 have h0:=bA (cX (aIJ cc m l c r D y) hi) hY
 have e0:compLoop (lcF (wiG cc m) (aJ (stm wbB 0)) (w3 l c r D (wI2 i Y))) (nPV (List.range i))=some ((List.range i).map fun j=>.list (wtL (q i j+1) (c j) (c i))):=by
  refine fZ fun j hj=>?_
  have h:=bA (bA (aIK cc m l c r D y) (xQ (List.mem_range.mp hj) hi)) hY
  obtain ⟨q1,q2⟩:=hq i j
  refine h.trans ?_
  rw [q1,show (2+(q i j:Int))=((q i j+2:Nat):Int) from Int.add_comm ..]
  exact congrArg mM (cX (aIL cc m (c j) (c i)) q2)
 have hl:((List.range i).map fun j=>PV.list (wtL (q i j+1) (c j) (c i))).length≤16777216:=by
  rw [List.length_map,List.length_range]; exact Nat.le_trans (Nat.le_of_lt hi) (by decide)
 rw [e0,Option.bind_some,eV _ hl] at h0
 have h1:=h0.trans (bA (aIM cc m l c r D i y _) hY)
 have h2:=aIN cc m l c r D i ((List.range i).map fun j=>.list (wtL (q i j+1) (c j) (c i)))
 have e2:compLoop (lcF (wiG cc m) (aJ (stm wbB 1)) (wS l c r D i ((List.range i).map fun j=>.list (wtL (q i j+1) (c j) (c i))))) ((List.range i).map fun j=>.list (wtL (q i j+1) (c j) (c i)))=some ((List.range i).map fun j=>wtF (q i j+1) (c j) (c i)):=by
  refine fZ fun j hj=>?_
  have e:compLoop (lcF (inC (wiG cc m) (aJ (stm wbB 1))) (kid 0 (aJ (stm wbB 1))) (inS (aJ (stm wbB 1)) (wS l c r D i ((List.range i).map fun j=>.list (wtL (q i j+1) (c j) (c i)))) (nm "told") (.list (wtL (q i j+1) (c j) (c i))))) (wtL (q i j+1) (c j) (c i))=some (((List.range (q i j+1)).filter fun k=>decide (c j k≥c i k)).map fun k=>.tuple [.int (k+1:Nat),.int (c j k),.int (c i k)]):=
   xS fun k zz=>(aIP cc m l c r D i _ _ _ _ _).trans (uA _ _)
  rw [aIO,e,Option.bind_some,eV _ (by
   rw [List.length_map]
   have:=(hq i j).2
   exact Nat.le_trans (List.length_filter_le _ _) (by rw [List.length_range]; exact Nat.le_trans this (by decide)))]
  rfl
 rw [e2,Option.bind_some,eV _ (by rw [List.length_map,List.length_range]; exact Nat.le_trans (Nat.le_of_lt hi) (by decide)),oE (by exact Nat.le_trans (Nat.succ_le_succ hD) (by decide))] at h2
 show exs (wiG cc m) (bM wbB 0) _=_
 rw [aL (b:=wbB) 0 (by kernel_rfl) h1,aL (b:=wbB) 1 (by kernel_rfl) h2]
 kernel_rfl
theorem aIR (σ:Sg):exs (wiG cc m) (bN (stm wiB 3)) σ=some (.next,σ):=by kernel_rfl
theorem aIS {q:Nat→Nat→Nat}(hq:∀i j,mxZ (r i) (r j)=q i j∧q i j<5)(is:List Nat):∀(D:List PV) (i0:Int) (y:PV) (Y:Sg),Y∈wT y→(∀i∈is,i<6)→D.length+is.length≤100 →
  ∃X,forLoop (wiG cc m).sc (bI (stm wiB 3)) (exs (wiG cc m) wbB) (exs (wiG cc m) (bN (stm wiB 3))) (nPV is) (w3 l c r D (wI2 i0 Y))=some (.next,w3 l c r (D++is.map (wtD c q)) X):=by
 induction is with
 |nil=>exact fun D i0 y Y zz zz zz=>⟨_,by rw [List.map_nil,List.append_nil]; exact aIR cc m _⟩
 |cons i is ih=>
  intro D i0 y Y hY hi hl
  rw [List.length_cons] at hl
  obtain ⟨X,ih⟩:=ih (D++[wtD c q i]) i (.list ((List.range i).map fun j=>.list (wtL (q i j+1) (c j) (c i)))) [(nm "rows",.fz (.list ((List.range i).map fun j=>.list (wtL (q i j+1) (c j) (c i)))))] (.tail _ (.head _)) (fun z hz=>hi z (.tail _ hz)) (by rw [List.length_append,List.length_singleton]; omega)
  refine ⟨X,?_⟩
  refine (xT (r:=nPV is) (WC cc m l c r D i i0 Y) (aIQ cc m l c r hq (hi i (.head _)) D (by omega) hY)).trans (ih.trans ?_)
  rw [List.append_assoc,List.singleton_append,List.map_cons]
end
theorem aIT (n:Nat)(r:Nat→Nat)(hr:∀i,r i<37){q:Nat→Nat→Nat}(hq:∀i j,mxZ (lrP (r i)) (lrP (r j))=q i j∧q i j<5):(O (n+2)).call oG [.list (aM fun i=>.str (ld (r i)))]=some (.list (aM (wtD (fun i=>cI (r i)) q))):=by
 refine gQ (D:=df oG) (by kernel_rfl) (by kernel_rfl) (by kernel_rfl) ?_
 rw [show dB (df oG).params [.list (aM fun i=>.str (ld (r i)))]=wA (.list (aM fun i=>.str (ld (r i)))) [] from by kernel_rfl]
 generalize hc:(O (n+1)).call=cc
 generalize (O (n+1)).meth=m
 show dH (exs (wiG cc m) (bM wiB 0) _)=_
 have e0:compLoop (lcF (wiG cc m) (aJ (stm wiB 0)) (wA (.list (aM fun i=>.str (ld (r i)))) [])) (aM fun i=>.str (ld (r i)))=some (aM fun i=>oD (cI (r i))):=by
  exact fZ (l:=[0,1,2,3,4,5]) (k:=fun i=>oD (cI (r i))) fun i zz=>(aIA cc m _ _).trans (by rw [←hc,aGz n (hr i)]; rfl)
 have e1:compLoop (lcF (wiG cc m) (aJ (stm wiB 1)) (wA (.list (aM fun i=>.str (ld (r i)))) [uC fun i=>cI (r i)])) (aM fun i=>.str (ld (r i)))=some (cN fun i=>lrP (r i)):=by
  exact fZ (l:=[0,1,2,3,4,5]) (k:=fun i=>.int (lrP (r i))) fun i zz=>cX (aID cc m _ _) (hr i)
 have s0:=aI9 cc m (aM fun i=>.str (ld (r i)))
 rw [e0] at s0
 have s0:_=some (Fl.next,wA _ [uC fun i=>cI (r i)]):=s0.trans (aIB cc m _ _)
 have s1:=aIC cc m (aM fun i=>.str (ld (r i))) (uC fun i=>cI (r i))
 rw [e1] at s1
 obtain ⟨X,h⟩:=aIS cc m (fun i=>.str (ld (r i))) (fun i=>cI (r i)) (fun i=>lrP (r i)) hq [0,1,2,3,4,5] [] 0 .none [] (.head _) (by decide) (by decide)
 have s3:=aIG cc m (fun i=>.str (ld (r i))) (fun i=>cI (r i)) (fun i=>lrP (r i))
 rw [show nPV [0,1,2,3,4,5]=.int (0:Nat)::nPV [1,2,3,4,5] from rfl] at s3 h
 have s3:=s3.trans ((xU (aII cc m _ _ _ _ _) (WC cc m _ _ _ _ _ _ _)).trans h)
 rw [aL (b:=wiB) 0 (by kernel_rfl) s0,aL (b:=wiB) 1 (by kernel_rfl) (s1.trans (aIE cc m _ _ _)),aL (b:=wiB) 2 (by kernel_rfl) (aIF cc m _ _ _),aL (b:=wiB) 3 (by kernel_rfl) s3,aIH]
 rfl
theorem WD:(List.range 37).all (fun r=>decide (0≤lrP r) && decide (lrP r≤4))=true:=by kernel_rfl
noncomputable def tri (l:List (Int × Int × Int)):PV:=.list (l.map fun t=>.tuple [.int t.1,.int t.2.1,.int t.2.2])
noncomputable def nlZ (r q:Nat):List (Int × Int × Int):=((ts4.filter fun k=>decide (k≤(bif decide (lrP r<lrP q) then lrP q else lrP r)+1)).filter fun k=>decide (ilP r k≥ilP q k)).map fun k=>(k,ilP r k,ilP q k)
theorem ES (r q:Nat):nlP r q=tri (nlZ r q):=by
 unfold nlP tri nlZ
 rw [List.map_map]
 rfl
noncomputable def mxN (r q:Nat):Nat:=(mxZ (lrP q) (lrP r)).toNat
noncomputable def wtZ (r q:Nat):List (Int × Int × Int):=((List.range (mxN r q+1)).filter fun k=>decide (cI r k≥cI q k)).map fun k=>(((k+1:Nat):Int),cI r k,cI q k)
theorem aIU:(List.range 37).all (fun r=>(List.range 37).all fun q=>decide (wtZ r q=nlZ r q))=true:=by kernel_rfl
theorem aIV {r q:Nat}(hr:r<37)(hq:q<37):wtF (mxN r q+1) (cI r) (cI q)=nlP r q:=by
 have h:=of_decide_eq_true (List.all_eq_true.mp (List.all_eq_true.mp aIU r (List.mem_range.mpr hr)) q (List.mem_range.mpr hq))
 rw [ES,←h]
 unfold wtF wtZ tri
 rw [List.map_map]
 rfl
theorem aIW {r q:Nat}(hr:r<37)(hq:q<37):mxZ (lrP q) (lrP r)=mxN r q∧mxN r q<5:=by
 have a:=List.all_eq_true.mp WD r (List.mem_range.mpr hr)
 have b:=List.all_eq_true.mp WD q (List.mem_range.mpr hq)
 simp only [Bool.and_eq_true,decide_eq_true_eq] at a b
 have:0≤mxZ (lrP q) (lrP r)∧mxZ (lrP q) (lrP r)≤4:=by
  unfold mxZ
  cases decide (lrP q<lrP r)
  ·exact b
  ·exact a
 unfold mxN
 exact ⟨(Int.toNat_of_nonneg this.1).symm,(Int.toNat_lt this.1).mpr (Int.lt_add_one_of_le this.2)⟩
noncomputable def eN (r:Nat→Nat)(i:Nat):PV:=.list ((List.range i).map fun j=>tri (nlZ (r j) (r i)))
noncomputable def rK (r:Nat→Nat):PV:=.list (aM (eN r))
theorem aIX (n:Nat)(r:Nat→Nat)(hr:∀i,r i<37):(O (n+2)).call oG [.list (aM fun i=>.str (ld (r i)))]=some (rK r):=by
 rw [aIT n r hr (q:=fun i j=>mxN (r j) (r i)) fun i j=>aIW (hr j) (hr i)]
 have e:∀i,wtD (fun i=>cI (r i)) (fun i j=>mxN (r j) (r i)) i=eN r i:=fun i=>by
  unfold wtD eN
  congr 1
  exact List.map_congr_left fun j zz=>(aIV (hr j) (hr i)).trans (ES _ _)
 rw [funext e]
 rfl
noncomputable def WE:List S:=(df mI).body
noncomputable def upE:E:=aJ (stm WE 0)
noncomputable def ET:E:=kid 1 (kid 0 (kid 0 upE))
noncomputable def upM (o:Option (List PV)):Option (List PV):=mM ((iY [cM .Add (some (.v (.list [.int (-1)]))) (o.bind fun l=>mkV (.list l))]).bind fun l=>(tA sV l).bind mkV)
section
variable (cc m:Nm→List PV→Option PV)
noncomputable abbrev upG:Gl:=GD cc m (df mI)
noncomputable abbrev upS (L:List PV):Sg:=[(nm "answers",.fz (.list L))]
theorem aIY (L:List PV):dH (exs (upG cc m) WE (upS L))=tW ((compLoop (lcF (upG cc m) upE (upS L)) L).bind fun l=>mkV (.list l)) (upS L):=by kernel_rfl
theorem aIZ (L:List PV)(d:Nat→PV):(List.range 6).map (fun i=>lcF (upG cc m) upE (upS L) (.list ((List.range i).map d)))=aH (List.range 6) fun i=>upM (compLoop (lcF (inC (upG cc m) upE) ET (inS upE (upS L) (nm "row") (.list ((List.range i).map d)))) (nPV (List.range i))):=by kernel_rfl
theorem aJa (L:List PV)(d:Nat→PV):eM.map (fun q=>lcF (inC (upG cc m) upE) ET (inS upE (upS L) (nm "row") (.list ((List.range q.1).map d))) (.int q.2))=aH eM fun q=>WB (WA (some (.v (d q.2)))) (.int q.2):=by kernel_rfl
end
theorem aJb (l:List (Int × Int × Int)):WA (some (.v (tri l)))=some l.isEmpty:=by
 have h:okN 8 (tri l)=true:=by
  show (l.map fun t=>PV.tuple [.int t.1,.int t.2.1,.int t.2.2]).all (okN 7)=true
  rw [List.all_map]
  exact List.all_eq_true.mpr fun zz zz=>rfl
 show trV (((bif okN 8 (tri l) && okN 8 (.list []) then some (eqD (tri l) (.list [])) else none).bind fun t=>some t).map fun b=>EV.v (.bool b))=_
 rw [h]
 cases l <;> rfl
theorem WF:∀(l:List Nat) (a:Int),sY a (nPV l)=some (.int (gR a (l.map fun (x:Nat)=>(x:Int))))
 |[],_=>rfl
 |x::r,a=>WF r _
theorem aJc (l:List Nat)(h:l.length≤100):upM (some (nPV l))=some [.int (gR (-1) (l.map fun (x:Nat)=>(x:Int)))]:=by
 have e:cM .Add (some (.v (.list [.int (-1)]))) ((some (nPV l)).bind fun l=>mkV (.list l))=some (.v (.list (.int (-1)::nPV l))):=by
  rw [Option.bind_some,eV _ (by rw [jK]; exact Nat.le_trans h (by decide)),EF,EG (by rw [jK,List.length_singleton,Nat.add_comm]; exact Nat.le_trans (Nat.succ_le_succ h) (by decide))]
  rfl
 unfold upM
 rw [e]
 show mM ((sY (-1) (nPV l)).bind mkV)=_
 rw [WF]
 rfl
noncomputable def xV (b:Nat→Nat→Bool)(i:Nat):Int:=gR (-1) (((List.range i).filter (b i)).map fun (x:Nat)=>(x:Int))
noncomputable def pgE (r:Nat→Nat)(i j:Nat):Bool:=(nlZ (r j) (r i)).isEmpty
theorem WG (n:Nat)(r:Nat→Nat):(O (n+1)).call mI [rK r]=some (.list (cN (xV (pgE r)))):=by
 refine gQ (D:=df mI) (by kernel_rfl) (by kernel_rfl) (by kernel_rfl) ?_
 rw [show dB (df mI).params [rK r]=upS (aM (eN r)) from by kernel_rfl]
 refine (aIY _ _ (aM (eN r))).trans ?_
 generalize (O n).call=cc
 generalize (O n).meth=m
 have e:compLoop (lcF (upG cc m) upE (upS (aM (eN r)))) (aM (eN r))=some (cN (xV (pgE r))):=by
  refine fZ (l:=[0,1,2,3,4,5]) (f:=eN r) (k:=fun i=>.int (xV (pgE r) i)) fun i hi=>?_
  have hi:i<6:=(by decide:∀i∈[0,1,2,3,4,5],i<6) i hi
  refine (cX (aIZ cc m (aM (eN r)) fun j=>tri (nlZ (r j) (r i))) hi).trans ?_
  have e2:compLoop (lcF (inC (upG cc m) upE) ET (inS upE (upS (aM (eN r))) (nm "row") (.list ((List.range i).map fun j=>tri (nlZ (r j) (r i)))))) (nPV (List.range i))=some (nPV ((List.range i).filter (pgE r i))):=
   xS fun j hj=>(bA (aJa cc m (aM (eN r)) fun j=>tri (nlZ (r j) (r i))) (xQ (List.mem_range.mp hj) hi)).trans (by
    simp only
    rw [aJb,aI8]
    rfl)
  rw [e2,aJc _ (Nat.le_trans (List.length_filter_le _ _) (by rw [List.length_range]; exact Nat.le_trans (Nat.le_of_lt hi) (by decide)))]
  rfl
 rw [e]
 rfl
namespace N
noncomputable abbrev Net:=List Nat × List Nat
noncomputable def jn (x y:List Nat):List Nat:=x.flatMap fun p=>y.map fun q=>p ||| q
noncomputable def dE (o:Bool)(x y:Net):Net:=bif o then (jn x.1 y.1,jn x.2 y.1++jn x.1 y.2) else (jn x.1 y.2++jn x.2 y.1,jn x.2 y.2)
noncomputable def oH (a:Nat→Bool)(v:Nat→Nat)(s:Nat→Net)(i:Nat):Nat→Net:=upd s (v i) (dE (a (v i)) (s (v i)) (s i))
noncomputable def okL (a:Nat→Bool)(v:Nat→Nat):List Nat→(Nat→Net)→Bool
 |[],_=>true
 |i::l,s=>decide ((dE (a (v i)) (s (v i)) (s i)).1.length≤1000) && decide ((dE (a (v i)) (s (v i)) (s i)).2.length≤1000) && okL a v l (oH a v s i)
noncomputable def gA (f:Nat→Nat)(x:Net):Net:=(x.1.map f,x.2.map f)
theorem aJd {f:Nat→Nat}(hf:∀x y,f (x ||| y)=f x ||| f y)(x y:List Nat):jn (x.map f) (y.map f)=(jn x y).map f:=by
 unfold jn
 simp only [List.flatMap_map,List.map_flatMap,List.map_map,Function.comp_def,hf]
theorem aJe {f:Nat→Nat}(hf:∀x y,f (x ||| y)=f x ||| f y)(o:Bool)(x y:Net):dE o (gA f x) (gA f y)=gA f (dE o x y):=by
 unfold dE gA
 cases o <;> simp only [cond_true,cond_false,aJd hf,List.map_append]
end N
open N
noncomputable def kC:Nm:=nm "_law_joined"
noncomputable def oI:Nm:=nm "_law_fold"
noncomputable def jnE:E:=aJ (stm (df kC).body 0)
noncomputable def jnF (G:Gl)(σ:Sg)(a b:PV):Option (List PV):=match jnE with
 |.comp elt (.mk t _ _) [.mk t' _ _] sc _=>match bindC sc.names t a (jP sc σ) with
  |none=>none
  |some σ'=>match bindC sc.names t' b σ' with
   |none=>none
   |some σ'=>mM (ev {G with sc:=sc.names} elt σ')
 |_=>none
section
variable (cc m:Nm→List PV→Option PV)
noncomputable abbrev jnG:Gl:=GD cc m (df kC)
noncomputable abbrev jnS (x y:List PV):Sg:=[(nm "some",.fz (.list x)),(nm "others",.fz (.list y))]
theorem aJf (x y:List PV):dH (exs (jnG cc m) (df kC).body (jnS x y))=tW ((compLoop (fun a=>compLoop (fun b=>jnF (jnG cc m) (jnS x y) a b) y) x).bind fun l=>mkV (.list l)) (jnS x y):=by kernel_rfl
theorem aJg (x y:List PV)(a b:Int):jnF (jnG cc m) (jnS x y) (.int a) (.int b)=some [.int (Builtin.bitOr a b)]:=by kernel_rfl
end
theorem xW (n:Nat)(x y:List Nat)(h:(jn x y).length≤1000):(O (n+1)).call kC [.list (nPV x),.list (nPV y)]=some (.list (nPV (jn x y))):=by
 refine gQ (D:=df kC) (by kernel_rfl) (by kernel_rfl) (by kernel_rfl) ?_
 rw [show dB (df kC).params [.list (nPV x),.list (nPV y)]=jnS (nPV x) (nPV y) from by kernel_rfl]
 refine (aJf _ _ (nPV x) (nPV y)).trans ?_
 have e:compLoop (fun a=>compLoop (fun b=>jnF (jnG (O n).call (O n).meth) (jnS (nPV x) (nPV y)) a b) (nPV y)) (nPV x)=some (nPV (jn x y)):=by
  refine (uB (k:=fun p=>nPV (y.map fun q=>p ||| q)) fun p zz=>?_).trans ?_
  ·refine (fZ (k:=fun q=>.int (p ||| q:Nat)) fun q zz=>(aJg _ _ _ _ _ _).trans (by rw [rE])).trans ?_
   unfold nPV
   rw [List.map_map]
   rfl
  ·unfold nPV jn
   rw [List.map_flatMap]
 rw [e,Option.bind_some,eV _ (by rw [jK]; exact Nat.le_trans h (by decide))]
 rfl
open N
noncomputable def fdB:List S:=(df oI).body
noncomputable def fbB:List S:=cD (stm fdB 2)
section
variable (cc m:Nm→List PV→Option PV)(tx:Nat→List Nat)(o u:Nat→Int)
noncomputable abbrev fdG:Gl:=GD cc m (df oI)
noncomputable abbrev f0 (Q:List PV)(X:Sg):Sg:=(nm "rows",.fz (.list (eU tx o)))::(nm "ups",.fz (.list (cN u)))::(nm "nets",.own Q)::X
noncomputable abbrev X1 (t:List Nat)(q:Int)(X:Sg):Sg:=(nm "text",.fz (.str t))::(nm "op",.fz (.int q))::X
theorem aJh:ex (fdG cc m) (stm fdB 0) [(nm "rows",.fz (.list (eU tx o))),(nm "ups",.fz (.list (cN u)))]=some (.next,f0 tx o u [] []):=by kernel_rfl
theorem aJi (Q:List PV):ex (fdG cc m) (stm fdB 1) (f0 tx o u Q [])=forLoop (fdG cc m).sc (bI (stm fdB 1)) (exs (fdG cc m) (cD (stm fdB 1))) (exs (fdG cc m) (bN (stm fdB 1))) (eU tx o) (f0 tx o u Q []):=by kernel_rfl
theorem aJj (Q:List PV)(t:List Nat)(q:Int):bK (fdG cc m).sc (bI (stm fdB 1)) (.tuple [.str t,.int q]) (f0 tx o u Q [])=some (f0 tx o u Q (X1 t q [])):=by kernel_rfl
theorem WH (Q:List PV)(t t':List Nat)(q q':Int):bK (fdG cc m).sc (bI (stm fdB 1)) (.tuple [.str t,.int q]) (f0 tx o u Q (X1 t' q' []))=some (f0 tx o u Q (X1 t q [])):=by kernel_rfl
noncomputable def aJk (o:Option EV):Option EV:=(iY [o]).bind fun l=>(tA sX l).bind mkV
noncomputable def EU (q:Option Nat):Option EV:=qB [qB [cM .LShift (some (.v (.int 1))) (cM .Sub (aJk (q.map fun c=>.v (.str [c]))) (some (.v (.int 97))))],some (.v (.list [.int 0]))]
noncomputable def nnV (l r:List PV):PV:=.list [.list l,.list r]
theorem aJl (Q:List PV)(t:List Nat)(q:Int):exs (fdG cc m) (cD (stm fdB 1)) (f0 tx o u Q (X1 t q []))=thn (jZ Q (evC (some (q==0)) (EU (atI t (-1))) (evC (some (q.fmod 2==1)) (some (.v (nnV [.int 0] []))) (some (.v (nnV [] [.int 0]))))) fun Q=>f0 tx o u Q (X1 t q [])):=by kernel_rfl
theorem aJm (σ:Sg):exs (fdG cc m) (bN (stm fdB 1)) σ=some (.next,σ):=by kernel_rfl
theorem aJn (σ:Sg):exs (fdG cc m) (bN (stm fdB 2)) σ=some (.next,σ):=by kernel_rfl
theorem aJo:(List.range 16).map (fun t=>EU (some (97+t)))=aH (List.range 16) fun t=>some (.v (nnV [.int (2 ^ t:Nat)] [.int 0])):=by kernel_rfl
noncomputable abbrev f2 (p q:Nat→List PV)(t:List Nat)(x:Int)(X:Sg):Sg:=f0 tx o u (aM fun j=>nnV (p j) (q j)) (X1 t x X)
theorem aJp (p q:Nat→List PV)(t:List Nat)(x:Int):ex (fdG cc m) (stm fdB 2) (f2 tx o u p q t x [])=forLoop (fdG cc m).sc (bI (stm fdB 2)) (exs (fdG cc m) fbB) (exs (fdG cc m) (bN (stm fdB 2))) (nPV [5,4,3,2,1]) (f2 tx o u p q t x []):=by kernel_rfl
noncomputable abbrev fI (i:Int)(Y:Sg):Sg:=(nm "i",.fz (.int i))::Y
noncomputable abbrev fY (a b c:PV):Sg:=[(nm "a",.fz a),(nm "net",.fz b),(nm "part",.fz c)]
noncomputable def fT (a b c:PV):List Sg:=[[],fY a b c]
theorem aJq (p q:Nat→List PV)(t:List Nat)(x i:Int):bK (fdG cc m).sc (bI (stm fdB 2)) (.int i) (f2 tx o u p q t x [])=some (f2 tx o u p q t x (fI i [])):=by kernel_rfl
theorem WI (p q:Nat→List PV)(t:List Nat)(x i i':Int)(Y:Sg):bK (fdG cc m).sc (bI (stm fdB 2)) (.int i) (f2 tx o u p q t x (fI i' Y))=some (f2 tx o u p q t x (fI i Y)):=by kernel_rfl
theorem aJr (p q:Nat→List PV)(t:List Nat)(x:Int)(a b c:PV):eM.map (fun z=>(fT a b c).map fun Y=>ex (fdG cc m) (stm fbB 0) (f2 tx o (upd u z.1 z.2) p q t x (fI z.1 Y))) =
  aH eM fun z=>aH (fT a b c) fun Y=>some (.next,f2 tx o (upd u z.1 z.2) p q t x (fI z.1 (aU (nm "a") (.fz (.int (1-(o z.2).fmod 2))) Y))):=by kernel_rfl
noncomputable abbrev fA (k:Int)(Y:Sg):Sg:=aU (nm "a") (.fz (.int k)) Y
theorem aJs (p q:Nat→List PV)(t:List Nat)(x k:Int)(a b c:PV):eM.map (fun z=>(fT a b c).map fun Y=>ex (fdG cc m) (stm fbB 1) (f2 tx o (upd u z.1 z.2) p q t x (fI z.1 (fA k Y)))) =
  aH eM fun z=>aH (fT a b c) fun Y=>some (.next,f2 tx o (upd u z.1 z.2) p q t x (fI z.1 (aU (nm "net") (.fz (nnV (p z.2) (q z.2))) (fA k Y)))):=by kernel_rfl
noncomputable abbrev fN (l r:List PV)(k:Int)(Y:Sg):Sg:=aU (nm "net") (.fz (nnV l r)) (fA k Y)
noncomputable def prS (k:Nat)(p q:Nat→List PV)(j:Nat):PV:=.list (bif k==0 then p j else q j)
noncomputable def cJ (x y:PV):Option EV:=(cc kC [x,y]).map .v
theorem aJt (p q:Nat→List PV)(t:List Nat)(x:Int)(a b c:PV):eM.map (fun z=>[0,1].map fun k=>(fT a b c).map fun Y=>ex (fdG cc m) (stm fbB 2) (f2 tx o (upd u z.1 z.2) p q t x (fI z.1 (fN (p z.2) (q z.2) (k:Nat) Y)))) =
  aH eM fun z=>aH [0,1] fun k=>aH (fT a b c) fun Y=>eC (fdG cc m) (nm "part") (aJ (stm fbB 2)) (f2 tx o (upd u z.1 z.2) p q t x (fI z.1 (fN (p z.2) (q z.2) (k:Nat) Y))) (cM .Add (cJ cc (prS (1-k) p q z.2) (prS k p q z.1)) (cJ cc (prS k p q z.2) (prS (1-k) p q z.1))):=by kernel_rfl
theorem aJu (p q:Nat→List PV)(t:List Nat)(x i:Int)(k:Int)(l r w:List PV)(a b c:PV):(fT a b c).map (fun Y=>eC (fdG cc m) (nm "part") (aJ (stm fbB 2)) (f2 tx o u p q t x (fI i (fN l r k Y))) (some (.v (.list w))))=aH (fT a b c) fun Y=>some (.next,f2 tx o u p q t x (fI i (fY (.int k) (nnV l r) (.list w)))):=by kernel_rfl
noncomputable def slR (k:Nat)(a b:Option EV):Option EV:=vV (qB [a,b]) (some none) (some none) (some (some (1-2*(k:Int))))
theorem aJv (p q:Nat→List PV)(t:List Nat)(x:Int)(w:List PV):eM.map (fun z=>[0,1].map fun k=>ex (fdG cc m) (stm fbB 3) (f2 tx o (upd u z.1 z.2) p q t x (fI z.1 (fY (.int (k:Nat)) (nnV (p z.2) (q z.2)) (.list w))))) =
  aH eM fun z=>aH [0,1] fun k=>dA ((bB (slR k (cJ cc (prS k p q z.2) (prS k p q z.1)) (some (.v (.list w))))).bind fun d=>some (f0 tx o (upd u z.1 z.2) (aM (upd (fun j=>nnV (p j) (q j)) z.2 d)) (X1 t x (fI z.1 (fY (.int (k:Nat)) (nnV (p z.2) (q z.2)) (.list w)))))):=by kernel_rfl
theorem aJw (z w:List PV):[0,1].map (fun k=>slR k (some (.v (.list z))) (some (.v (.list w))))=aH [0,1] fun k=>some (.v (bif k==0 then nnV z w else nnV w z)):=by kernel_rfl
theorem aJx (p q:Nat→List PV)(t:List Nat)(x:Int)(X:Sg):exs (fdG cc m) (bM fdB 3) (f2 tx o u p q t x X)=some (.ret (nnV (p 0) (q 0)),f2 tx o u p q t x X):=by kernel_rfl
end
open N
structure xX (tx:Nat→List Nat)(o:Nat→Int)(lf:Nat→Bool)(kn:Nat→Nat):Prop where
 leaf:∀i,i<6→lf i=true→o i=0∧kn i<16∧∃l,l.length≤10∧tx i=l++[97+kn i]
 node:∀i,i<6→lf i=false→0<o i
noncomputable def aR (o:Nat→Int)(i:Nat):Bool:=(o i).fmod 2==1
noncomputable def eW (b lf:Nat→Bool)(kn:Nat→Nat)(i:Nat):Net:=bif lf i then ([2 ^ kn i],[0]) else bif b i then ([0],[]) else ([],[0])
noncomputable def mO (x:Net):PV:=nnV (nPV x.1) (nPV x.2)
theorem WJ (o:Nat→Int)(c:Nat):1-(o c).fmod 2=((bif aR o c then 0 else 1:Nat):Int):=by
 obtain ⟨a,b⟩:=eS (o c) (k:=2) (by decide)
 have e:(o c).fmod 2=0∨(o c).fmod 2=1:=by omega
 unfold aR
 rcases e with e |e <;> rw [e] <;> rfl
section
variable (cc m:Nm→List PV→Option PV){tx:Nat→List Nat}{o:Nat→Int}(u:Nat→Int){lf:Nat→Bool}{kn:Nat→Nat}
theorem aJy (R:xX tx o lf kn){i:Nat}(hi:i<6)(Q:List PV)(hQ:Q.length≤100):exs (fdG cc m) (cD (stm fdB 1)) (f0 tx o u Q (X1 (tx i) (o i) []))=some (.next,f0 tx o u (Q++[mO (eW (aR o) lf kn i)]) (X1 (tx i) (o i) [])):=by
 have e:evC (some (o i==0)) (EU (atI (tx i) (-1))) (evC (some ((o i).fmod 2==1)) (some (.v (nnV [.int 0] []))) (some (.v (nnV [] [.int 0]))))=some (.v (mO (eW (aR o) lf kn i))):=by
  unfold eW
  cases hl:lf i
  ·rw [beq_eq_false_iff_ne.mpr (show o i≠0 by exact Int.ne_of_gt (R.node i hi hl))]
   show evC (some (aR o i)) _ _=_
   cases aR o i <;> rfl
  ·obtain ⟨h0,hk,l,hl,htx⟩:=R.leaf i hi hl
   rw [h0,htx,VJ _ _ (by exact Nat.le_trans hl (by decide))]
   exact cX aJo hk
 rw [aJl,e,oE (by exact Nat.le_trans (Nat.succ_le_succ hQ) (by decide))]
 rfl
theorem aJz (R:xX tx o lf kn)(is:List Nat):∀(Q:List PV) (t:List Nat) (q:Int),(∀i∈is,i<6)→Q.length+is.length≤100→∃t' q',forLoop (fdG cc m).sc (bI (stm fdB 1)) (exs (fdG cc m) (cD (stm fdB 1))) (exs (fdG cc m) (bN (stm fdB 1))) (is.map fun i=>.tuple [.str (tx i),.int (o i)]) (f0 tx o u Q (X1 t q [])) =
  some (.next,f0 tx o u (Q++is.map fun i=>mO (eW (aR o) lf kn i)) (X1 t' q' [])):=by
 induction is with
 |nil=>exact fun Q t q zz zz=>⟨t,q,by rw [List.map_nil,List.map_nil,List.append_nil]; exact aJm cc m _⟩
 |cons i is ih=>
  intro Q t q hi hl
  rw [List.length_cons] at hl
  obtain ⟨t',q',ih⟩:=ih (Q++[mO (eW (aR o) lf kn i)]) (tx i) (o i) (fun z hz=>hi z (.tail _ hz)) (by rw [List.length_append,List.length_singleton,Nat.add_right_comm]; exact hl)
  refine ⟨t',q',(xT (WH cc m tx o u Q (tx i) t (o i) q) (aJy cc m u R (hi i (.head _)) Q (Nat.le_trans (Nat.le_add_right _ _) hl))).trans (ih.trans ?_)⟩
  rw [List.append_assoc,List.singleton_append,List.map_cons]
end
section
variable (n:Nat)(m:Nm→List PV→Option PV)(tx:Nat→List Nat)(o u:Nat→Int)
noncomputable abbrev fdC:Nm→List PV→Option PV:=(O (n+1)).call
noncomputable abbrev f3 (s:Nat→Net)(t:List Nat)(x:Int)(X:Sg):Sg:=f2 tx o u (fun j=>nPV (s j).1) (fun j=>nPV (s j).2) t x X
theorem WK {a b c d:List Nat}(h:(jn a b++jn c d).length≤1000):cM .Add (cJ (fdC n) (.list (nPV a)) (.list (nPV b))) (cJ (fdC n) (.list (nPV c)) (.list (nPV d)))=some (.v (.list (nPV (jn a b++jn c d)))):=by
 rw [List.length_append] at h
 show cM .Add (((O (n+1)).call kC [.list (nPV a),.list (nPV b)]).map .v) (((O (n+1)).call kC [.list (nPV c),.list (nPV d)]).map .v)=_
 rw [xW n a b (Nat.le_trans (Nat.le_add_right _ _) h),xW n c d (Nat.le_trans (Nat.le_add_left _ _) h)]
 show cM .Add (some (.v _)) (some (.v _))=_
 rw [EF,EG (by rw [jK,jK]; exact Nat.le_trans h (by decide))]
 unfold nPV
 rw [List.map_append]
 rfl
theorem aJ0 (s:Nat→Net)(t:List Nat)(x:Int){i c:Nat}(hi:i<6)(hc:c<i)(hu:u i=(c:Int))(h1:(dE (aR o c) (s c) (s i)).1.length≤1000)(h2:(dE (aR o c) (s c) (s i)).2.length≤1000){a b d:PV}{Y:Sg}(hY:Y∈fT a b d):
  ∃a' b' d',exs (fdG (fdC n) m) fbB (f3 tx o u s t x (fI i Y))=some (.next,f3 tx o u (upd s c (dE (aR o c) (s c) (s i))) t x (fI i (fY a' b' d'))):=by
 have hp:=xQ hc hi
 have hself:upd u i (c:Int)=u:=by rw [←hu]; exact VZ u i
 have s0:=bA (bA (aJr (fdC n) m tx o u (fun j=>nPV (s j).1) (fun j=>nPV (s j).2) t x a b d) hp) hY
 simp only at s0
 rw [WJ o c] at s0
 have hk:(bif aR o c then 0 else 1:Nat)∈[0,1]:=by cases aR o c <;> decide
 generalize hkk:(bif aR o c then 0 else 1:Nat)=k at s0 hk
 have s1:=bA (bA (aJs (fdC n) m tx o u (fun j=>nPV (s j).1) (fun j=>nPV (s j).2) t x k a b d) hp) hY
 have s2:=bA (bA (bA (aJt (fdC n) m tx o u (fun j=>nPV (s j).1) (fun j=>nPV (s j).2) t x a b d) hp) hk) hY
 have hj:(fun (p:List Nat) (J:List Nat)=>cM .Add (cJ (fdC n) (prS (1-k) (fun j=>nPV (s j).1) (fun j=>nPV (s j).2) c) (prS k (fun j=>nPV (s j).1) (fun j=>nPV (s j).2) i)) (cJ (fdC n) (prS k (fun j=>nPV (s j).1) (fun j=>nPV (s j).2) c) (prS (1-k) (fun j=>nPV (s j).1) (fun j=>nPV (s j).2) i))=some (.v (.list (nPV p))) ∧
   cJ (fdC n) (prS k (fun j=>nPV (s j).1) (fun j=>nPV (s j).2) c) (prS k (fun j=>nPV (s j).1) (fun j=>nPV (s j).2) i)=some (.v (.list (nPV J)))∧(bif k==0 then nnV (nPV J) (nPV p) else nnV (nPV p) (nPV J))=mO (dE (aR o c) (s c) (s i)))
   (bif aR o c then jn (s c).2 (s i).1++jn (s c).1 (s i).2 else jn (s c).1 (s i).2++jn (s c).2 (s i).1) (bif aR o c then jn (s c).1 (s i).1 else jn (s c).2 (s i).2):=by
  subst hkk
  cases hb:aR o c
  ·rw [hb] at h1 h2
   exact ⟨WK n h1,congrArg (Option.map EV.v) (xW n _ _ h2),rfl⟩
  ·rw [hb] at h1 h2
   exact ⟨WK n h2,congrArg (Option.map EV.v) (xW n _ _ h1),rfl⟩
 generalize (bif aR o c then jn (s c).2 (s i).1++jn (s c).1 (s i).2 else jn (s c).1 (s i).2++jn (s c).2 (s i).1)=p at hj
 generalize (bif aR o c then jn (s c).1 (s i).1 else jn (s c).2 (s i).2)=J at hj
 obtain ⟨j1,j2,j3⟩:=hj
 simp only at s2
 rw [j1] at s2
 have s2:=s2.trans (bA (aJu (fdC n) m tx o (upd u i c) (fun j=>nPV (s j).1) (fun j=>nPV (s j).2) t x i k (nPV (s c).1) (nPV (s c).2) (nPV p) a b d) hY)
 have s3:=bA (bA (aJv (fdC n) m tx o u (fun j=>nPV (s j).1) (fun j=>nPV (s j).2) t x (nPV p)) hp) hk
 simp only at s3
 rw [j2,bA (aJw (nPV J) (nPV p)) hk,j3] at s3
 rw [hself] at s0 s1 s2 s3
 refine ⟨.int k,nnV (nPV (s c).1) (nPV (s c).2),.list (nPV p),?_⟩
 show exs (fdG (fdC n) m) (bM fbB 0) _=_
 rw [aL (b:=fbB) 0 (by kernel_rfl) s0,aL (b:=fbB) 1 (by kernel_rfl) s1,aL (b:=fbB) 2 (by kernel_rfl) s2,aL (b:=fbB) 3 (by kernel_rfl) s3]
 have e:(fun j=>nnV (nPV (upd s c (dE (aR o c) (s c) (s i)) j).1) (nPV (upd s c (dE (aR o c) (s c) (s i)) j).2))=upd (fun j=>nnV (nPV (s j).1) (nPV (s j).2)) c (mO (dE (aR o c) (s c) (s i))):=funext fun j=>by
  unfold upd
  cases j==c <;> rfl
 show _=some (Fl.next,f0 tx o u (aM fun j=>nnV (nPV (upd s c (dE (aR o c) (s c) (s i)) j).1) (nPV (upd s c (dE (aR o c) (s c) (s i)) j).2)) _)
 rw [e]
 kernel_rfl
theorem aJ1 {v:Nat→Nat}{f:Nat→Nat}(hf:∀x y,f (x ||| y)=f x ||| f y)(is:List Nat):∀(s s':Nat→Net) (t:List Nat) (x i0:Int) (a b d:PV) (Y:Sg),(∀j,j<6→s' j=gA f (s j))→Y∈fT a b d→(∀i∈is,i<6∧v i<i∧u i=(v i:Int))→okL (aR o) v is s=true →
  ∃s₂ X,forLoop (fdG (fdC n) m).sc (bI (stm fdB 2)) (exs (fdG (fdC n) m) fbB) (exs (fdG (fdC n) m) (bN (stm fdB 2))) (nPV is) (f3 tx o u s' t x (fI i0 Y))=some (.next,f3 tx o u s₂ t x X)∧s₂ 0=gA f (is.foldl (oH (aR o) v) s 0):=by
 induction is with
 |nil=>exact fun s s' t x i0 a b d Y hs zz zz zz=>⟨s',_,aJn _ m _,hs 0 (by decide)⟩
 |cons i is ih=>
  intro s s' t x i0 a b d Y hs hY hi hok
  obtain ⟨h6,hv,hu⟩:=hi i (.head _)
  have hok:(decide ((dE (aR o (v i)) (s (v i)) (s i)).1.length≤1000) && decide ((dE (aR o (v i)) (s (v i)) (s i)).2.length≤1000) && okL (aR o) v is (oH (aR o) v s i))=true:=hok
  simp only [Bool.and_eq_true,decide_eq_true_eq] at hok
  have e:dE (aR o (v i)) (s' (v i)) (s' i)=gA f (dE (aR o (v i)) (s (v i)) (s i)):=by rw [hs _ (Nat.lt_trans hv h6),hs _ h6,aJe hf]
  obtain ⟨a',b',d',h⟩:=aJ0 n m tx o u s' t x h6 hv hu (by rw [e]; show (List.map f _).length≤_; rw [List.length_map]; exact hok.1.1) (by rw [e]; show (List.map f _).length≤_; rw [List.length_map]; exact hok.1.2) hY
  obtain ⟨s₂,X,h3,h4⟩:=ih (oH (aR o) v s i) (upd s' (v i) (dE (aR o (v i)) (s' (v i)) (s' i))) t x i a' b' d' (fY a' b' d') (fun j hj=>by
   unfold oH upd
   cases j==v i
   ·exact hs j hj
   ·exact e) (.tail _ (.head _)) (fun z hz=>hi z (.tail _ hz)) hok.2
  exact ⟨s₂,X,(xT (r:=nPV is) (WI (fdC n) m tx o u _ _ t x i i0 Y) h).trans h3,h4⟩
end
theorem aJ2 (n:Nat){tx:Nat→List Nat}{o u:Nat→Int}{lf:Nat→Bool}{kn v:Nat→Nat}(R:xX tx o lf kn)(hu:∀i,1≤i→i<6→v i<i∧u i=(v i:Int)){f:Nat→Nat}(hf:∀x y,f (x ||| y)=f x ||| f y){s:Nat→Net}(hs:∀j,j<6→eW (aR o) lf kn j=gA f (s j))(hok:okL (aR o) v [5,4,3,2,1] s=true):
  (O (n+2)).call oI [.list (eU tx o),.list (cN u)]=some (mO (gA f ([5,4,3,2,1].foldl (oH (aR o) v) s 0))):=by
 refine gQ (D:=df oI) (by kernel_rfl) (by kernel_rfl) (by kernel_rfl) ?_
 rw [show dB (df oI).params [.list (eU tx o),.list (cN u)]=[(nm "rows",.fz (.list (eU tx o))),(nm "ups",.fz (.list (cN u)))] from by kernel_rfl]
 generalize (O (n+1)).meth=m
 show dH (exs (fdG (fdC n) m) (bM fdB 0) _)=_
 obtain ⟨t,q,h1⟩:=aJz (fdC n) m u R [0,1,2,3,4,5] [] (tx 0) (o 0) (by decide) (by decide)
 have s1:ex (fdG (fdC n) m) (stm fdB 1) (f0 tx o u [] [])=some (.next,f3 tx o u (eW (aR o) lf kn) t q []):=(aJi (fdC n) m tx o u []).trans ((xU (aJj (fdC n) m tx o u [] (tx 0) (o 0)) (WH (fdC n) m tx o u [] (tx 0) (tx 0) (o 0) (o 0))).trans h1)
 obtain ⟨s₂,X,h3,h4⟩:=aJ1 n m tx o u hf [5,4,3,2,1] s (eW (aR o) lf kn) t q 5 .none .none .none [] hs (.head _) (fun i hi=>by
  have:=(by decide:∀i∈[5,4,3,2,1],1≤i∧i<6) i hi
  exact ⟨this.2,hu i this.1 this.2⟩) hok
 have s2:=(aJp (fdC n) m tx o u (fun j=>nPV (eW (aR o) lf kn j).1) (fun j=>nPV (eW (aR o) lf kn j).2) t q).trans ((xU (r:=nPV [4,3,2,1]) (aJq (fdC n) m tx o u _ _ t q 5) (WI (fdC n) m tx o u _ _ t q 5 5 [])).trans h3)
 have s3:=aJx (fdC n) m tx o u (fun j=>nPV (s₂ j).1) (fun j=>nPV (s₂ j).2) t q X
 rw [aL (b:=fdB) 0 (by kernel_rfl) (aJh _ m tx o u),aL (b:=fdB) 1 (by kernel_rfl) s1,aL (b:=fdB) 2 (by kernel_rfl) s2,s3,←h4]
 rfl
namespace N
noncomputable def is5:List Nat:=[1,2,3,4,5]
noncomputable def dL:List Nat:=[0,1,2,3,4,5]
noncomputable def lf (v:Nat→Nat)(i:Nat):Bool:=!(is5.any fun j=>v j==i)
noncomputable def under (v:Nat→Nat)(i:Nat):List Nat:=is5.filter fun j=>v j==i
noncomputable def EW (row:Bool)(e:Nat × Nat):List Nat→List Nat→(Nat→Nat × Nat)→Nat→Nat × Nat
 |j::u,m::n::r,f=>EW row e u (n::r) (upd f j (bif row then (m,n) else e))
 |_,_,f=>f
noncomputable abbrev mP:=(Nat→Nat × Nat) × Nat
noncomputable def iK (e:Nat × Nat)(M n:Nat):List Nat:=e.1::(List.range (n-1)).map (M+·)++[e.2]
noncomputable def mQ (a:Nat→Bool)(v:Nat→Nat)(p:mP)(i:Nat):mP:=
 (EW (a i && !(bP (under v i))) (p.1 i) (under v i) (iK (p.1 i) p.2 (under v i).length) p.1,bif a i && !(bP (under v i)) then p.2+((under v i).length-1) else p.2)
noncomputable def okW (a:Nat→Bool)(v:Nat→Nat):List Nat→mP→Bool
 |[],_=>true
 |i::l,p=>decide (2≤p.2) && decide (p.2≤6) && okW a v l (mQ a v p i)
end N
open N
noncomputable def kG:Nm:=nm "_law_wires"
noncomputable def wrB:List S:=(df kG).body
noncomputable def wrL:List S:=cD (stm wrB 2)
noncomputable def EX:List Nat→List (List Nat)
 |[]=>[[]]
 |x::r=>EX r++(EX r).map (x::·)
noncomputable def iu:List (Nat × List Nat):=dL.flatMap fun i=>(EX ((List.range' (i+1) (5-i)))).map fun u=>(i,u)
noncomputable def epN (p:Nat × Nat):PV:=.tuple [.int p.1,.int p.2]
noncomputable def WL (a b:Option Bool):Option Bool:=a.bind fun t=>bif t then b.bind fun t=>bif t then some true else some false else some false
section
variable (cc m:Nm→List PV→Option PV)(tx:Nat→List Nat)(o u:Nat→Int)(t:Int)
noncomputable abbrev wrG:Gl:=GD cc m (df kG)
noncomputable abbrev wrP:Sg:=[(nm "page",.fz (.list (eU tx o))),(nm "ups",.fz (.list (cN u))),(nm "turn",.fz (.int t))]
noncomputable abbrev g1 (e:Nat→Nat × Nat)(M:Int)(X:Sg):Sg:=wrP tx o u t++(nm "ends",.own (aM fun j=>epN (e j)))::(nm "many",.fz (.int M))::X
theorem aJ3:exs (wrG cc m) wrB (wrP tx o u t)=exs (wrG cc m) (bM wrB 2) (g1 tx o u t (fun zz=>(0,1)) 2 []):=by
 refine (aL (b:=wrB) 0 (by kernel_rfl) (?_:_=some (Fl.next,wrP tx o u t++[(nm "ends",.own (aM fun zz=>epN (0,1)))]))).trans (aL (b:=wrB) 1 (by kernel_rfl) ?_) <;> kernel_rfl
theorem aJ4 (e:Nat→Nat × Nat)(M:Int):ex (wrG cc m) (stm wrB 2) (g1 tx o u t e M [])=forLoop (wrG cc m).sc (bI (stm wrB 2)) (exs (wrG cc m) wrL) (exs (wrG cc m) (bN (stm wrB 2))) (nPV [0,1,2,3,4,5]) (g1 tx o u t e M []):=by kernel_rfl
theorem aJ5 (σ:Sg):exs (wrG cc m) (bN (stm wrB 2)) σ=some (.next,σ):=by kernel_rfl
noncomputable abbrev gI (i:Int)(Y:Sg):Sg:=(nm "i",.fz (.int i))::Y
theorem aJ6 (e:Nat→Nat × Nat)(M i:Int):bK (wrG cc m).sc (bI (stm wrB 2)) (.int i) (g1 tx o u t e M [])=some (g1 tx o u t e M (gI i [])):=by kernel_rfl
theorem WM (e:Nat→Nat × Nat)(M i i':Int)(Y:Sg):bK (wrG cc m).sc (bI (stm wrB 2)) (.int i) (g1 tx o u t e M (gI i' Y))=some (g1 tx o u t e M (gI i Y)):=by kernel_rfl
noncomputable abbrev gY (a b c:PV)(K:Sg):Sg:=(nm "under",.fz a)::(nm "marks",.fz b)::(nm "row",.fz c)::K
noncomputable def gT (a b c d:PV):List Sg:=[[],gY a b c [],gY a b c [(nm "k",.fz d)]]
theorem aJ7 (e:Nat→Nat × Nat)(M:Int)(a b c d:PV):(List.range 6).map (fun (i:Nat)=>(gT a b c d).map fun Y=>ex (wrG cc m) (stm wrL 0) (g1 tx o u t e M (gI i Y))) =
  aH (List.range 6) fun (i:Nat)=>aH (gT a b c d) fun Y=>eC (wrG cc m) (nm "under") (aJ (stm wrL 0)) (g1 tx o u t e M (gI i Y)) ((compLoop (lcF (wrG cc m) (aJ (stm wrL 0)) (g1 tx o u t e M (gI i Y))) (nPV [0,1,2,3,4,5])).bind fun l=>mkV (.list l)):=by kernel_rfl
theorem aJ8 (e:Nat→Nat × Nat)(M:Int)(a b c d:PV):(List.range 6).map (fun (i:Nat)=>(List.range 6).map fun (j:Nat)=>(gT a b c d).map fun Y=>lcF (wrG cc m) (aJ (stm wrL 0)) (g1 tx o u t e M (gI i Y)) (.int j)) =
  aH (List.range 6) fun (i:Nat)=>aH (List.range 6) fun (j:Nat)=>aH (gT a b c d) fun Y=>rJ (u j==i) (.int j):=by kernel_rfl
noncomputable abbrev gU (U:PV)(Y:Sg):Sg:=aU (nm "under") (.fz U) Y
theorem aJ9 (e:Nat→Nat × Nat)(M i:Int)(a b c d:PV)(U:List PV):(gT a b c d).map (fun Y=>eC (wrG cc m) (nm "under") (aJ (stm wrL 0)) (g1 tx o u t e M (gI i Y)) (some (.v (.list U))))=aH (gT a b c d) fun Y=>some (.next,g1 tx o u t e M (gI i (gU (.list U) Y))):=by kernel_rfl
noncomputable abbrev gM (U V:PV)(Y:Sg):Sg:=aU (nm "marks") (.fz V) (gU U Y)
theorem aJA (e:Nat→Nat × Nat)(a b c d:PV):iu.map (fun q=>(List.range 5).map fun M=>(gT a b c d).map fun Y=>ex (wrG cc m) (stm wrL 1) (g1 tx o u t e (M+2:Nat) (gI q.1 (gU (.list (nPV q.2)) Y)))) =
  aH iu fun q=>aH (List.range 5) fun M=>aH (gT a b c d) fun Y=>some (.next,g1 tx o u t e (M+2:Nat) (gI q.1 (gM (.list (nPV q.2)) (.list (nPV (iK (e q.1) (M+2) q.2.length))) Y))):=by kernel_rfl
end
open N
section
variable (cc m:Nm→List PV→Option PV)(tx:Nat→List Nat)(o u:Nat→Int)(t:Int)
theorem aJB (e:Nat→Nat × Nat)(M:Int)(V a b c d:PV):iu.map (fun q=>(gT a b c d).map fun Y=>ex (wrG cc m) (stm wrL 2) (g1 tx o u t e M (gI q.1 (gM (.list (nPV q.2)) V Y)))) =
  aH iu fun q=>aH (gT a b c d) fun Y=>eC (wrG cc m) (nm "row") (aJ (stm wrL 2)) (g1 tx o u t e M (gI q.1 (gM (.list (nPV q.2)) V Y))) ((WL (some ((o q.1+t).fmod 2==1)) (some (!(bP q.2)))).map fun b=>.v (.bool b)):=by kernel_rfl
noncomputable def gK (d:PV):List Sg:=[[],[(nm "k",.fz d)]]
noncomputable abbrev WN (Y:Sg):Sg:=Y.drop 3
theorem aJC (e:Nat→Nat × Nat)(M i:Int)(U V a b c d:PV)(r:Bool):(gT a b c d).map (fun Y=>eC (wrG cc m) (nm "row") (aJ (stm wrL 2)) (g1 tx o u t e M (gI i (gM U V Y))) (some (.v (.bool r))))=aH (gT a b c d) fun Y=>some (.next,g1 tx o u t e M (gI i (gY U V (.bool r) (WN Y)))):=by kernel_rfl
theorem aJD (e:Nat→Nat × Nat)(M:Int)(V d:PV):iu.map (fun q=>[true,false].map fun r=>(gK d).map fun K=>ex (wrG cc m) (stm wrL 3) (g1 tx o u t e M (gI q.1 (gY (.list (nPV q.2)) V (.bool r) K)))) =
  aH iu fun q=>aH [true,false] fun r=>aH (gK d) fun K=>some (.next,g1 tx o u t e (M+bif r then (q.2.length:Int)-1 else 0) (gI q.1 (gY (.list (nPV q.2)) V (.bool r) K))):=by kernel_rfl
noncomputable abbrev gK2 (n:Nat)(K:Sg):Sg:=bif n==0 then K else [(nm "k",.fz (.int (n-1:Nat)))]
theorem aJE (e:Nat→Nat × Nat)(M:Int)(w:Nat→Nat)(d:PV):iu.map (fun q=>[true,false].map fun r=>(gK d).map fun K=>ex (wrG cc m) (stm wrL 4) (g1 tx o u t e M (gI q.1 (gY (.list (nPV q.2)) (.list (nPV ((List.range (max q.2.length 1+1)).map w))) (.bool r) K)))) =
  aH iu fun q=>aH [true,false] fun r=>aH (gK d) fun K=>some (.next,g1 tx o u t (EW r (e q.1) q.2 ((List.range (max q.2.length 1+1)).map w) e) M (gI q.1 (gY (.list (nPV q.2)) (.list (nPV ((List.range (max q.2.length 1+1)).map w))) (.bool r) (gK2 q.2.length K)))):=by kernel_rfl
theorem aJF (e:Nat→Nat × Nat)(M:Int)(X:Sg):ex (wrG cc m) (stm wrB 3) (g1 tx o u t e M X)=jJ (QA [(compLoop (lcF (wrG cc m) (kid 0 (aJ (stm wrB 3))) (frz (g1 tx o u t e M X))) (nPV [0,1,2,3,4,5])).bind fun l=>mkV (.list l),some (.v (.int M))]) (g1 tx o u t e M X):=by kernel_rfl
theorem aJG (e:Nat→Nat × Nat)(M i:Int)(a b c d:PV):(gK d).map (fun K=>(List.range 6).map fun (j:Nat)=>lcF (wrG cc m) (kid 0 (aJ (stm wrB 3))) (frz (g1 tx o u t e M (gI i (gY a b c K)))) (.int j))=aH (gK d) fun K=>aH (List.range 6) fun (j:Nat)=>rJ (o j==0) (epN (e j)):=by kernel_rfl
end
open N
theorem aJH (a b:Bool):WL (some a) (some b)=some (a && b):=by cases a <;> cases b <;> rfl
theorem EY (l:List Nat):(List.range l.length).map (fun k=>l.getD k 0)=l:=by
 refine List.ext_getElem (by rw [List.length_map,List.length_range]) fun k h1 h2=>?_
 rw [List.getElem_map,List.getElem_range,List.getD_eq_getElem?_getD,List.getElem?_eq_getElem h2]
 rfl
theorem aJI (e:Nat × Nat)(M n:Nat):(iK e M n).length=max n 1+1:=by
 unfold iK
 rw [List.length_append,List.length_cons,List.length_map,List.length_range,List.length_singleton]
 exact congrArg (·+1) (Nat.sub_add_eq_max n 1)
theorem aJJ {a b c d:PV}{Y:Sg}(h:Y∈gT a b c d):WN Y∈gK d:=by
 unfold gT at h
 simp only [List.mem_cons,List.not_mem_nil,or_false] at h
 rcases h with rfl |rfl |rfl
 ·exact .head _
 ·exact .head _
 ·exact .tail _ (.head _)
theorem aJK {n:Nat}{d:PV}{K:Sg}(h:K∈gK d):∃d',gK2 n K∈gK d':=by
 unfold gK2
 cases n==0
 ·exact ⟨_,.tail _ (.head _)⟩
 ·exact ⟨d,h⟩
theorem aJL {a b c d:PV}{K:Sg}(h:K∈gK d):gY a b c K∈gT a b c d:=by
 unfold gK at h
 simp only [List.mem_cons,List.not_mem_nil,or_false] at h
 rcases h with rfl |rfl
 ·exact .tail _ (.head _)
 ·exact .tail _ (.tail _ (.head _))
theorem oJ {j:Nat}(h:j∈[0,1,2,3,4,5]):j<6:=(by decide:∀j∈[0,1,2,3,4,5],j<6) j h
theorem mR {j:Nat}(h:j∈is5):1≤j∧j<6:=(by decide:∀j∈is5,1≤j∧j<6) j h
structure xY (u:Nat→Int)(v:Nat→Nat):Prop where
 z:u 0=-1
 u:∀i,1≤i→i<6→v i<i∧u i=(v i:Int)
 iu:∀i,i<6→(i,under v i)∈iu
theorem aJM {u:Nat→Int}{v:Nat→Nat}(U:xY u v)(i:Nat):[0,1,2,3,4,5].filter (fun j=>u j==(i:Int))=under v i:=by
 rw [List.filter_cons,U.z,show ((-1:Int)==(i:Int))=false from beq_eq_false_iff_ne.mpr (Int.ne_of_lt (Int.lt_of_lt_of_le (by decide) (Int.natCast_nonneg i)))]
 refine List.filter_congr fun j hj=>?_
 obtain ⟨h1,h2⟩:=mR hj
 rw [(U.u j h1 h2).2,Bool.eq_iff_iff,beq_iff_eq,beq_iff_eq]
 exact Int.ofNat_inj
section
variable (cc m:Nm→List PV→Option PV)(tx:Nat→List Nat)(o:Nat→Int){u:Nat→Int}{v:Nat→Nat}(U:xY u v)(t:Int)
noncomputable def cK (o:Nat→Int)(t:Int)(i:Nat):Bool:=(o i+t).fmod 2==1
noncomputable abbrev g2 (p:mP)(X:Sg):Sg:=g1 tx o u t p.1 p.2 X
include U in
theorem aJN (p:mP){i:Nat}(hi:i<6)(hM:2≤p.2∧p.2≤6){a b c d:PV}{Y:Sg}(hY:Y∈gT a b c d):∃a' b' c' d' K',K'∈gK d' ∧
  exs (wrG cc m) wrL (g2 tx o (u:=u) t p (gI i Y))=some (.next,g2 tx o (u:=u) t (mQ (cK o t) v p i) (gI i (gY a' b' c' K'))):=by
 obtain ⟨e,M⟩:=p
 have hq:=U.iu i hi
 have hK:=aJJ hY
 have e0:compLoop (lcF (wrG cc m) (aJ (stm wrL 0)) (g1 tx o u t e M (gI i Y))) (nPV [0,1,2,3,4,5])=some (nPV (under v i)):=by
  rw [←aJM U i]
  exact xS fun j hj=>(bA (cX (cX (aJ8 cc m tx o u t e M a b c d) hi) (oJ hj)) hY).trans (uA _ _)
 have ul:(under v i).length≤5:=List.length_filter_le _ _
 have s0:=bA (cX (aJ7 cc m tx o u t e M a b c d) hi) hY
 rw [e0,Option.bind_some,eV _ (by rw [jK]; exact Nat.le_trans ul (by decide))] at s0
 have s0:=s0.trans (bA (aJ9 cc m tx o u t e M i a b c d (nPV (under v i))) hY)
 have s1:=bA (cX (bA (aJA cc m tx o u t e a b c d) hq) (show M-2<5 by have:=hM.2; simp only at this; omega)) hY
 rw [Nat.sub_add_cancel hM.1] at s1
 have s2:=bA (bA (aJB cc m tx o u t e M (.list (nPV (iK (e i) M (under v i).length))) a b c d) hq) hY
 simp only at s1 s2
 rw [aJH] at s2
 have s2:=s2.trans (bA (aJC cc m tx o u t e M i (.list (nPV (under v i))) (.list (nPV (iK (e i) M (under v i).length))) a b c d _) hY)
 have hr:((o i+t).fmod 2==1 && !(bP (under v i)))∈[true,false]:=by cases ((o i+t).fmod 2==1 && !(bP (under v i))) <;> decide
 have s3:=bA (bA (bA (aJD cc m tx o u t e M (.list (nPV (iK (e i) M (under v i).length))) d) hq) hr) hK
 have s4:=bA (bA (bA (aJE cc m tx o u t e ((mQ (cK o t) v (e,M) i).2) (fun k=>(iK (e i) M (under v i).length).getD k 0) d) hq) hr) hK
 have hw:(List.range (max (under v i).length 1+1)).map (fun k=>(iK (e i) M (under v i).length).getD k 0)=iK (e i) M (under v i).length:=by
  rw [←aJI (e i) M]; exact EY _
 have hM2:(M:Int)+(bif ((o i+t).fmod 2==1 && !(bP (under v i))) then ((under v i).length:Int)-1 else 0)=((mQ (cK o t) v (e,M) i).2:Int):=by
  show _=((bif ((o i+t).fmod 2==1 && !(bP (under v i))) then M+((under v i).length-1) else M:Nat):Int)
  cases hb:((o i+t).fmod 2==1 && !(bP (under v i)))
  ·exact Int.add_zero _
  ·have:1≤(under v i).length:=by
    cases hu:under v i with
    |nil=>rw [hu] at hb; simp [bP] at hb
    |cons x r=>exact Nat.succ_pos _
   show (M:Int)+(((under v i).length:Int)-1)=((M+((under v i).length-1):Nat):Int)
   omega
 simp only at s3 s4
 rw [hM2] at s3
 rw [hw] at s4
 obtain ⟨d',hK'⟩:=aJK (n:=(under v i).length) hK
 refine ⟨.list (nPV (under v i)),.list (nPV (iK (e i) M (under v i).length)),.bool ((o i+t).fmod 2==1 && !(bP (under v i))),d',_,hK',?_⟩
 show exs (wrG cc m) (bM wrL 0) _=_
 rw [aL (b:=wrL) 0 (by kernel_rfl) s0,aL (b:=wrL) 1 (by kernel_rfl) s1,aL (b:=wrL) 2 (by kernel_rfl) s2,aL (b:=wrL) 3 (by kernel_rfl) s3,aL (b:=wrL) 4 (by kernel_rfl) s4]
 kernel_rfl
include U in
theorem aJO (is:List Nat):∀(p:mP) (i0:Int) (a b c d:PV) (Y:Sg),(∀i∈is,i<6)→okW (cK o t) v is p=true→is≠[]→Y∈gT a b c d→∃i' a' b' c' d' K',K'∈gK d' ∧
  forLoop (wrG cc m).sc (bI (stm wrB 2)) (exs (wrG cc m) wrL) (exs (wrG cc m) (bN (stm wrB 2))) (nPV is) (g2 tx o (u:=u) t p (gI i0 Y))=some (.next,g2 tx o (u:=u) t (is.foldl (mQ (cK o t) v) p) (gI i' (gY a' b' c' K'))):=by
 induction is with
 |nil=>exact fun zz zz zz zz zz zz zz zz zz h=>absurd rfl h
 |cons i is ih=>
  intro p i0 a b c d Y hi hok _ hY
  have hok:(decide (2≤p.2) && decide (p.2≤6) && okW (cK o t) v is (mQ (cK o t) v p i))=true:=hok
  simp only [Bool.and_eq_true,decide_eq_true_eq] at hok
  obtain ⟨a',b',c',d',K',hK,h⟩:=aJN cc m tx o U t p (hi i (.head _)) hok.1 hY
  have st:=fun els=>xT (els:=els) (r:=nPV is) (WM cc m tx o u t p.1 p.2 i i0 Y) h
  cases is with
  |nil=>exact ⟨i,a',b',c',d',K',hK,(st _).trans (aJ5 cc m _)⟩
  |cons k is=>
   obtain ⟨i',a2,b2,c2,d2,K2,h2,h3⟩:=ih (mQ (cK o t) v p i) i a' b' c' d' (gY a' b' c' K') (fun z hz=>hi z (.tail _ hz)) hok.2 (by nofun) (aJL hK)
   exact ⟨i',a2,b2,c2,d2,K2,h2,(st _).trans h3⟩
end
noncomputable def oK:mP:=(fun zz=>(0,1),2)
noncomputable def kH (a:Nat→Bool)(v:Nat→Nat):mP:=dL.foldl (mQ a v) oK
noncomputable def jL (a:Nat→Bool)(v:Nat→Nat):List (Nat × Nat) × Nat:=((dL.filter (lf v)).map (kH a v).1,(kH a v).2)
noncomputable def gZ (w:List (Nat × Nat) × Nat):PV:=.tuple [.list (w.1.map epN),.int w.2]
theorem WO (n:Nat)(tx:Nat→List Nat)(o:Nat→Int){u:Nat→Int}{v:Nat→Nat}(U:xY u v)(t:Int)(ho:∀j,j<6→(o j==0)=lf v j)(hok:okW (cK o t) v dL oK=true):
  (O (n+1)).call kG [.list (eU tx o),.list (cN u),.int t]=some (gZ (jL (cK o t) v)):=by
 refine gQ (D:=df kG) (by kernel_rfl) (by kernel_rfl) (by kernel_rfl) ?_
 rw [show dB (df kG).params [.list (eU tx o),.list (cN u),.int t]=wrP tx o u t from by kernel_rfl]
 generalize (O n).call=cc
 generalize (O n).meth=m
 refine (congrArg dH (aJ3 cc m tx o u t)).trans ?_
 obtain ⟨i',a',b',c',d',K',hK,h⟩:=aJO cc m tx o U t dL oK 0 .none .none .none .none [] (by decide) hok (by nofun) (.head _)
 have s2:ex (wrG cc m) (stm wrB 2) (g1 tx o u t (fun zz=>(0,1)) 2 [])=some (.next,g2 tx o (u:=u) t (kH (cK o t) v) (gI i' (gY a' b' c' K'))):=(aJ4 cc m tx o u t (fun zz=>(0,1)) 2).trans ((xU (r:=nPV [1,2,3,4,5]) (aJ6 cc m tx o u t _ 2 0) (WM cc m tx o u t _ 2 0 0 [])).trans h)
 have e:compLoop (lcF (wrG cc m) (kid 0 (aJ (stm wrB 3))) (frz (g2 tx o (u:=u) t (kH (cK o t) v) (gI i' (gY a' b' c' K'))))) (nPV [0,1,2,3,4,5])=some ((jL (cK o t) v).1.map epN):=by
  refine (uB (l:=[0,1,2,3,4,5]) (k:=fun j=>bif lf v j then [epN ((kH (cK o t) v).1 j)] else []) fun j hj=>(cX (bA (aJG cc m tx o u t (kH (cK o t) v).1 (kH (cK o t) v).2 i' a' b' c' d') hK) (oJ hj)).trans ?_).trans ?_
  ·rw [uA,ho j (oJ hj)]
  ·rw [xR,jL,List.map_map]
   rfl
 have s3:=aJF cc m tx o u t (kH (cK o t) v).1 (kH (cK o t) v).2 (gI i' (gY a' b' c' K'))
 have hl:((jL (cK o t) v).1.map epN).length≤16777216:=by
  unfold jL
  rw [List.length_map,List.length_map]
  exact Nat.le_trans (List.length_filter_le _ _) (by decide)
 rw [e,Option.bind_some,eV _ hl] at s3
 rw [aL (b:=wrB) 2 (by kernel_rfl) s2,mK (b:=wrB) (d:=gZ (jL (cK o t) v)) 3 (by kernel_rfl) s3]
 rfl
open N
noncomputable def jM:Nm:=nm "_law_determinant"
noncomputable def EZ:Nm:=nm "_law_left"
noncomputable def dT:List (Nat × Nat):=[(522,2),(33298,6),(42003,8),(66195,8),(2130458,22),(2139163,104),(2163355,104),(2655259,104),(2663451,40),(2687515,104),(2687643,72),(2688027,96),(2700828,128),(2720988,128),(2950812,128),(2991132,128),(4227739,104),(4235803,104),(4235931,96),(4236315,72),(4241052,128),(4260507,40),(4301532,128),(5023260,128),(5079708,128),(6333660,128),(6369948,128),(6861852,128),(6882012,128),(136348194,278),(136356899,1640),(136872995,4712),(136905251,5224),(137208868,26752),(169903139,5672),(169935395,5704),(170435619,552),(171999779,5728),(172033059,5632),(173159973,32768),(186754084,26752),(187540516,2176),(188810916,10240),(188851236,18432),(189900837,32768),(189925029,32768),(191398948,26752),(191431204,26752),(191431716,24576),(191449125,32768),(191472676,10240),(192029733,32768),(205665957,32768),(208286757,32768),(210568869,32768),(210609189,32768),(271123491,4192),(271386276,8320),(271426596,16512),(271726245,32768),(272671779,1096),(272676516,2176),(272695971,552),(338310693,32768),(338536485,32768),(338560677,32768),(343979685,32768),(344761893,32768),(344818341,32768),(439198756,8320),(439497765,32768),(443069476,2176),(472785957,32768),(478721061,32768),(590455845,32768),(8726282794,65814),(14706123822,2147483648)]
noncomputable def WP:Nat→Nat→List (Nat × Nat)
 |0,_=>[]
 |n+1,x=>(x%8,x / 8%8)::WP n (x / 64)
noncomputable def eX (c:Nat):List (Nat × Nat) × Nat:=(WP (c / 8%8) (c / 64),c%8)
theorem aJP (n:Nat):(dT.take 16).map (fun p=>(O (n+1)).call jM [gZ (eX p.1)])=aH (dT.take 16) fun p=>some (.int p.2):=by kernel_rfl
theorem aJQ (n:Nat):((dT.drop 16).take 16).map (fun p=>(O (n+1)).call jM [gZ (eX p.1)])=aH ((dT.drop 16).take 16) fun p=>some (.int p.2):=by kernel_rfl
theorem aJR (n:Nat):(((dT.drop 16).drop 16).take 16).map (fun p=>(O (n+1)).call jM [gZ (eX p.1)])=aH (((dT.drop 16).drop 16).take 16) fun p=>some (.int p.2):=by kernel_rfl
theorem aJS (n:Nat):((((dT.drop 16).drop 16).drop 16).take 16).map (fun p=>(O (n+1)).call jM [gZ (eX p.1)])=aH ((((dT.drop 16).drop 16).drop 16).take 16) fun p=>some (.int p.2):=by kernel_rfl
theorem aJT (n:Nat):((((dT.drop 16).drop 16).drop 16).drop 16).map (fun p=>(O (n+1)).call jM [gZ (eX p.1)])=aH ((((dT.drop 16).drop 16).drop 16).drop 16) fun p=>some (.int p.2):=by kernel_rfl
theorem WQ (n:Nat){p:Nat × Nat}(h:p∈dT):(O (n+1)).call jM [gZ (eX p.1)]=some (.int p.2):=by
 rcases mH 16 h with h |h
 ·exact bA (aJP n) h
 rcases mH 16 h with h |h
 ·exact bA (aJQ n) h
 rcases mH 16 h with h |h
 ·exact bA (aJR n) h
 rcases mH 16 h with h |h
 ·exact bA (aJS n) h
 ·exact bA (aJT n) h
open N
noncomputable def szD (c:Nat):Nat:=c / 8%8
noncomputable def eD (L x:Nat):List Nat:=(List.range (2 ^ L)).filter fun m=>x.testBit m
noncomputable def FA (L x:Nat):Nat:=((eD L x).map fun m=>2 ^ (2 ^ L-1-m)).sum
theorem aJU (n:Nat):dT.map (fun p=>(O (n+1)).call EZ [.int p.2,.int (2 ^ szD p.1:Nat)])=aH dT fun p=>some (.int (FA (szD p.1) p.2:Nat)):=by kernel_rfl
theorem WR:∀l:List Nat,eH (nPV l)=some (l.map fun (x:Nat)=>(x:Int))
 |[]=>rfl
 |x::r=>by
  show ((asI (.int x)).bind fun i=>(eH (nPV r)).map (i::·))=_
  rw [WR r]; rfl
noncomputable def eY:List (List Nat)→List Nat
 |[]=>[]
 |[w]=>w
 |w::x::r=>w++44::32::eY (x::r)
noncomputable abbrev cbS:PySem.Str:=⟨#[44,32]⟩
noncomputable abbrev mkT (w:List Nat):PySem.Str:=⟨w.toArray⟩
theorem WS:∀ws:List (List Nat),(∀w∈ws,w.length≤20)→(eY ws).length≤22*ws.length
 |[],_=>Nat.le_refl _
 |[w],h=>by have:=h w (.head _); show w.length≤22; exact Nat.le_trans this (by decide)
 |w::x::r,h=>by
  have h1:=h w (.head _)
  have h2:=WS (x::r) fun z hz=>h z (.tail _ hz)
  show (w++44::32::eY (x::r)).length≤_
  simp only [List.length_append,List.length_cons] at h2 ⊢
  omega
theorem aJV:∀ws:List (List Nat),(Txt.join cbS (ws.map mkT)).cps.toList=eY ws:=by
 have go:∀(r:List (List Nat)) (x:List Nat),(r.foldl (fun (acc:Array Nat) p=>acc++#[44,32]++p.toArray) x.toArray).toList=eY (x::r):=by
  intro r
  induction r with
  |nil=>intro x; rfl
  |cons y r ih=>
   intro x
   rw [List.foldl_cons]
   have e:(x.toArray++#[44,32]++y.toArray)=(x++44::32::y).toArray:=by simp
   rw [e,ih]
   cases r with
   |nil=>rfl
   |cons z r=>simp [eY]
 intro ws
 cases ws with
 |nil=>rfl
 |cons w r=>
  have:=go r w
  show (((r.map mkT).foldl (fun acc (p:PySem.Str)=>acc++cbS.cps++p.cps) (mkT w).cps)).toList=_
  rw [List.foldl_map]
  exact this
theorem FB:∀ws:List (List Nat),lQ (ws.map .str)=some (ws.map mkT)
 |[]=>rfl
 |w::r=>by rw [List.map_cons,aBM,FB r]; rfl
theorem aJW (ws:List (List Nat))(h:∀w∈ws,w.length≤20)(hl:ws.length≤1000):sZ [44,32] (ws.map .str)=some (eY ws):=by
 unfold sZ
 rw [FB]
 have hs:((ws.map mkT).map (·.length)).sum≤20*ws.length:=by
  have:=StrLaws.sumLen_le (B:=20) (ws.map mkT) fun y hy=>by
   obtain ⟨w,hw,rfl⟩:=List.mem_map.mp hy
   exact h w hw
  rw [List.length_map] at this; omega
 rw [Option.bind_some,decide_eq_true (by rw [List.length_map]; show _+ws.length*2≤_; omega)]
 show some (Txt.join cbS (ws.map mkT)).cps.toList=_
 rw [aJV]
noncomputable def aJX:List (List Nat):=["OPTIMIZED", "NEWLOCALS", "VARARGS", "VARKEYWORDS", "NESTED", "GENERATOR", "NOFREE", "COROUTINE", "ITERABLE_COROUTINE", "ASYNC_GENERATOR"].map fun s=>nm (PySem.Str.ofString s)
noncomputable def cA (k:Nat):List Nat:=bif decide (k<10) then aJX.getD k [] else [48,120]++[[49,50,52,56].getD (k%4) 0]++List.replicate (k / 4) 48
theorem aJY:(List.range 16).all (fun k=>decide ((cA k).length≤20) && okN 8 (.str (cA k)))=true:=by decide +kernel
theorem WT {k:Nat}(h:k<16):(cA k).length≤20∧okN 8 (.str (cA k))=true:=by
 have:=List.all_eq_true.mp aJY k (List.mem_range.mpr h)
 simp only [Bool.and_eq_true,decide_eq_true_eq] at this
 exact this
noncomputable def iL (x:Nat):List Nat→List Nat
 |[]=>[x]
 |y::r=>bif decide (x≤y) then x::y::r else y::iL x r
theorem uD (x y:Nat)(r:List Nat):iL x (y::r)=bif decide (x≤y) then x::y::r else y::iL x r:=rfl
noncomputable def cU:List Nat→List Nat
 |[]=>[]
 |x::r=>iL x (cU r)
theorem aJZ (x:Nat)(r:List Nat):cU (x::r)=iL x (cU r):=rfl
theorem WU (x:Nat):∀l:List Nat,mY (x:Int) (l.map fun (k:Nat)=>(k:Int))=(iL x l).map fun (k:Nat)=>(k:Int)
 |[]=>rfl
 |y::r=>by
  have ih:=WU x r
  rw [List.map_cons,aBN,uD]
  by_cases h:x≤y
  ·rw [decide_eq_true h,decide_eq_true (show (x:Int)≤y by exact Int.ofNat_le.mpr h)]; rfl
  ·rw [decide_eq_false h,decide_eq_false (show ¬ (x:Int)≤y by exact mt Int.ofNat_le.mp h)]
   simp only [cond_false,ih,List.map_cons]
theorem WV:∀l:List Nat,lR (l.map fun (k:Nat)=>(k:Int))=(cU l).map fun (k:Nat)=>(k:Int)
 |[]=>rfl
 |x::r=>by rw [List.map_cons,aBO,WV r,WU]; rfl
theorem aKa (l:List Nat):lT (nPV l)=some (nPV (cU l)):=by
 show Option.casesOn (motive:=fun zz=>Option (List PV)) (eH (nPV l)) _ (fun ns=>some ((lR ns).map PV.int))=_
 rw [WR]
 simp only
 rw [WV,List.map_map]
 rfl
theorem WW (x:Nat):∀l:List Nat,(iL x l).length=l.length+1
 |[]=>rfl
 |y::r=>by
  rw [uD]
  cases decide (x≤y)
  ·show (iL x r).length+1=_; rw [WW x r]; rfl
  ·rfl
theorem xZ:∀l:List Nat,(cU l).length=l.length
 |[]=>rfl
 |x::r=>by rw [aJZ,WW,xZ r]; rfl
theorem FC {x z:Nat}:∀{l:List Nat},z∈iL x l→z=x∨z∈l
 |[],h=>by cases h with |head=>exact .inl rfl |tail _ h=>cases h
 |y::r,h=>by
  rw [uD] at h
  cases hd:decide (x≤y)
  ·rw [hd] at h
   rcases List.mem_cons.mp h with h |h
   ·exact .inr (h▸.head _)
   ·rcases FC h with h |h
    ·exact .inl h
    ·exact .inr (.tail _ h)
  ·rw [hd] at h
   rcases List.mem_cons.mp h with h |h
   ·exact .inl h
   ·exact .inr h
theorem FD {z:Nat}:∀{l:List Nat},z∈cU l→z∈l
 |x::r,h=>by
  rcases FC h with h |h
  ·exact h▸.head _
  ·exact .tail _ (FD h)
noncomputable def woB:List S:=(df rB).body
noncomputable def FE (o:Option EV):Option EV:=(iY [o]).bind fun l=>(BD vJ (.str [44,32]) l).bind mkV
theorem WX (ks:List Nat)(h:∀k∈ks,k<16)(hl:ks.length≤100):FE (some (.v (.list (ks.map fun k=>PV.str (cA k)))))=some (.v (.str (eY (ks.map cA)))):=by
 have hw:∀w∈ks.map cA,w.length≤20:=fun w hw=>by
  obtain ⟨k,hk,rfl⟩:=List.mem_map.mp hw
  exact (WT (h k hk)).1
 show ((sZ [44,32] (ks.map fun k=>PV.str (cA k))).map PV.str).bind mkV=_
 rw [show (ks.map fun k=>PV.str (cA k))=(ks.map cA).map .str by rw [List.map_map]; rfl,aJW _ hw (by rw [List.length_map]; exact Nat.le_trans hl (by decide))]
 show (bif bG (eY (ks.map cA)).length then _ else _)=_
 have:=WS _ hw
 rw [List.length_map] at this
 rw [gV (by omega)]; rfl
noncomputable def yA:List Nat:=[48,120,48]
noncomputable def neN (o:Option EV):Option Bool:=trV (qA [.NotEq] o [some (.v (.list []))])
section
variable (cc m:Nm→List PV→Option PV)
noncomputable abbrev woG:Gl:=GD cc m (df rB)
noncomputable abbrev sw1 (P:List PV):Sg:=[(nm "places",.fz (.list P)),(nm "names",.fz (.list ((List.range 16).map fun k=>.str (cA k))))]
noncomputable def woE:E:=kid 1 (aJ (stm woB 1))
theorem aKb (P:List PV):ex (woG cc m) (stm woB 0) [(nm "places",.fz (.list P))]=some (.next,sw1 P):=by kernel_rfl
theorem aKc (P:List PV):ex (woG cc m) (stm woB 1) (sw1 P)=jJ (ifE (neN (some (.v (.list P)))) (FE (lcR (itR ((bif decide (P.length<64) then (lT P).map PV.list else none).bind mkV)) (compLoop (lcF (woG cc m) (kid 0 woE) (sw1 P))))) (some (.v (.str yA)))) (sw1 P):=by kernel_rfl
theorem aKd (P:List PV):(List.range 16).map (fun (k:Nat)=>lcF (woG cc m) (kid 0 woE) (sw1 P) (.int k))=aH (List.range 16) fun k=>some [.str (cA k)]:=by kernel_rfl
end
theorem aKe (l:List Nat):okN 8 (.list (nPV l))=true:=by
 show (nPV l).all (okN 7)=true
 unfold nPV
 rw [List.all_map]
 exact List.all_eq_true.mpr fun zz zz=>rfl
theorem aKf (l:List Nat):neN (some (.v (.list (nPV l))))=some (!l.isEmpty):=by
 show trV ((((bif okN 8 (.list (nPV l)) && okN 8 (.list []) then some (eqD (.list (nPV l)) (.list [])) else none).map (!·)).bind fun t=>some t).map fun b=>EV.v (.bool b))=_
 rw [aKe]
 cases l <;> rfl
noncomputable def wdL (ks:List Nat):List Nat:=bif ks.isEmpty then yA else eY (ks.map cA)
theorem aKg (n:Nat)(ks:List Nat)(h:∀k∈ks,k<16)(hl:ks.length≤20):(O (n+1)).call rB [.list (nPV ks)]=some (.str (wdL (cU ks))):=by
 refine gQ (D:=df rB) (by kernel_rfl) (by kernel_rfl) (by kernel_rfl) ?_
 rw [show dB (df rB).params [.list (nPV ks)]=[(nm "places",.fz (.list (nPV ks)))] from by kernel_rfl]
 generalize (O n).call=cc
 generalize (O n).meth=m
 show dH (exs (woG cc m) (bM woB 0) _)=_
 rw [aL (b:=woB) 0 (by kernel_rfl) (aKb cc m (nPV ks))]
 have hs:(cU ks).length≤20:=by rw [xZ]; exact hl
 have hm:∀k∈cU ks,k<16:=fun k hk=>h k (FD hk)
 have e:ex (woG cc m) (stm woB 1) (sw1 (nPV ks))=some (.ret (.str (wdL (cU ks))),sw1 (nPV ks)):=by
  rw [aKc,aKf]
  cases hk:ks with
  |nil=>rfl
  |cons x r=>
   rw [←hk]
   have e2:(cU ks).isEmpty=false:=by
    rw [Bool.eq_false_iff]
    intro e
    have:=List.isEmpty_iff.mp e
    have:=congrArg List.length this
    rw [xZ,hk] at this
    cases this
   have hc:compLoop (lcF (woG cc m) (kid 0 woE) (sw1 (nPV ks))) (nPV (cU ks))=some ((cU ks).map fun k=>PV.str (cA k)):=fZ fun k hk=>cX (aKd cc m _) (hm k hk)
   rw [show (!ks.isEmpty)=true by rw [hk]; rfl,decide_eq_true (by rw [jK]; exact Nat.lt_of_le_of_lt hl (by decide)),aKa]
   simp only [cond_true,Option.map_some,Option.bind_some]
   rw [eV _ (by rw [jK]; exact Nat.le_trans hs (by decide)),US,EI,hc,Option.bind_some,eV _ (by rw [List.length_map]; exact Nat.le_trans hs (by decide)),WX _ hm (Nat.le_trans hs (by decide)),wdL,e2]
   rfl
 rw [mK (b:=woB) 1 (by kernel_rfl) e]
 rfl
noncomputable def pfB:List S:=(df mJ).body
noncomputable def kJ:List S:=cD (stm pfB 1)
noncomputable def pcB:List S:=cD (stm kJ 1)
section
variable (cc m:Nm→List PV→Option PV)
noncomputable abbrev pfG:Gl:=GD cc m (df mJ)
noncomputable abbrev sp0 (F:Int)(R:List PV)(X:Sg):Sg:=(nm "flags",.fz (.int F))::(nm "names",.own R)::X
noncomputable abbrev cB (F:Int)(R:List PV)(i f:Int):Sg:=sp0 F R [(nm "i",.fz (.int i)),(nm "flag",.fz (.int f))]
theorem aKh (F:Int):ex (pfG cc m) (stm pfB 0) [(nm "flags",.fz (.int F))]=some (.next,sp0 F [] []):=by kernel_rfl
theorem aKi (F:Int)(R:List PV):ex (pfG cc m) (stm pfB 1) (sp0 F R [])=forLoop (pfG cc m).sc (bI (stm pfB 1)) (exs (pfG cc m) kJ) (exs (pfG cc m) (bN (stm pfB 1))) ((List.range 32).map fun (k:Nat)=>.int k) (sp0 F R []):=by kernel_rfl
theorem aKj (F:Int)(R:List PV)(i:Int):bK (pfG cc m).sc (bI (stm pfB 1)) (.int i) (sp0 F R [])=some (sp0 F R [(nm "i",.fz (.int i))]):=by kernel_rfl
theorem WY (F:Int)(R:List PV)(i i' f:Int):bK (pfG cc m).sc (bI (stm pfB 1)) (.int i) (cB F R i' f)=some (cB F R i f):=by kernel_rfl
theorem aKk (F:Int)(R:List PV):(List.range 16).map (fun (i:Nat)=>ex (pfG cc m) (stm kJ 0) (sp0 F R [(nm "i",.fz (.int i))]))=aH (List.range 16) fun (i:Nat)=>some (.next,cB F R i (2 ^ i:Nat)):=by kernel_rfl
theorem WZ (F:Int)(R:List PV)(f:Int):(List.range 16).map (fun (i:Nat)=>ex (pfG cc m) (stm kJ 0) (cB F R i f))=aH (List.range 16) fun (i:Nat)=>some (.next,cB F R i (2 ^ i:Nat)):=by kernel_rfl
theorem aKl (F:Int)(R:List PV)(i f:Int):exs (pfG cc m) (bM kJ 1) (cB F R i f)=thn (ifC (some (Builtin.bitAnd F f != 0)) (exs (pfG cc m) pcB (cB F R i f)) (some (.next,cB F R i f))):=by kernel_rfl
theorem aKm (F:Int)(R:List PV):(List.range 16).map (fun (i:Nat)=>ex (pfG cc m) (stm pcB 0) (cB F R i (2 ^ i:Nat)))=aH (List.range 16) fun (i:Nat)=>jZ R (some (.v (.str (cA i)))) fun R=>cB F R i (2 ^ i:Nat):=by kernel_rfl
theorem aKn (F:Int)(R:List PV)(i f:Int):ex (pfG cc m) (stm pcB 1) (cB F R i f)=some (.next,cB (Builtin.bitXor F f) R i f):=by kernel_rfl
theorem aKo (F:Int)(R:List PV)(i f:Int):exs (pfG cc m) (bM pcB 2) (cB F R i f)=thn (ifC ((some (F != 0)).map (!·)) (some (.brk,cB F R i f)) (some (.next,cB F R i f))):=by kernel_rfl
theorem aKp (F:Int)(R:List PV)(i f:Int):ex (pfG cc m) (stm pfB 2) (cB F R i f)=jJ (FE (some (.v (.list R)))) (cB F R i f):=by kernel_rfl
end
theorem XA (F i:Nat):F &&& 2 ^ i=(F.testBit i).toNat*2 ^ i:=by
 apply Nat.eq_of_testBit_eq
 intro j
 rw [Nat.testBit_and,Nat.testBit_two_pow]
 by_cases e:i=j
 ·subst e
  cases h:F.testBit i <;> simp
 ·cases F.testBit i <;> simp [e]
theorem aKq (F i:Nat):Builtin.bitAnd (F:Int) ((2 ^ i:Nat):Int)=((F.testBit i).toNat*2 ^ i:Nat):=by
 rw [mL,XA]
theorem aKr {F i:Nat}(h:F.testBit i=true):F ||| 2 ^ i=F:=by
 apply Nat.eq_of_testBit_eq
 intro j
 rw [Nat.testBit_or,Nat.testBit_two_pow]
 by_cases e:i=j
 ·subst e; simp [h]
 ·simp [e]
theorem aKs {F i:Nat}(h:F.testBit i=true):Builtin.bitXor (F:Int) ((2 ^ i:Nat):Int)=((F-2 ^ i:Nat):Int):=by
 have hle:2 ^ i≤F:=by
  have:=Nat.ge_two_pow_of_testBit h
  exact this
 rw [aGJ,aKr h,XA,h]
 simp only [Bool.toNat_true,Nat.one_mul]
 exact (Int.ofNat_sub hle).symm
noncomputable def fM (F i:Nat):List Nat:=(List.range' i (16-i)).filter F.testBit
noncomputable def hH (F:Nat):List Nat:=(List.range 16).filter F.testBit
theorem aKt {F i:Nat}(h0:F%2 ^ i=0):F=2 ^ i*(F / 2 ^ i):=by
 have:=Nat.div_add_mod F (2 ^ i)
 rw [h0,Nat.add_zero] at this
 exact this.symm
theorem aKu {F i:Nat}(h0:F%2 ^ i=0)(hb:F.testBit i=false):F%2 ^ (i+1)=0:=by
 rw [Nat.testBit_eq_decide_div_mod_eq,decide_eq_false_iff_not] at hb
 rw [Nat.pow_succ,Nat.mod_mul,h0]
 rw [(Nat.mod_two_eq_zero_or_one _).resolve_right hb]; rfl
theorem aKv {F i:Nat}(h0:F%2 ^ i=0)(hb:F.testBit i=true):(F-2 ^ i)%2 ^ (i+1)=0∧∀j,i<j→(F-2 ^ i).testBit j=F.testBit j:=by
 rw [Nat.testBit_eq_decide_div_mod_eq,decide_eq_true_eq] at hb
 have e:=aKt h0
 obtain ⟨q,hq⟩:∃q,F / 2 ^ i=2*q+1:=⟨F / 2 ^ i / 2,by rw [←hb]; exact (Nat.div_add_mod _ _).symm⟩
 rw [hq] at e
 have e2:F-2 ^ i=2 ^ (i+1)*q:=by
  rw [e,Nat.pow_succ,Nat.mul_add,Nat.mul_one,Nat.add_sub_cancel,Nat.mul_assoc]
 refine ⟨by rw [e2]; exact Nat.mul_mod_right _ _,fun j hj=>?_⟩
 rw [e2,Nat.testBit_eq_decide_div_mod_eq,Nat.testBit_eq_decide_div_mod_eq]
 have ej:(2:Nat) ^ j=2 ^ (i+1)*2 ^ (j-(i+1)):=by rw [←Nat.pow_add,Nat.add_sub_cancel' hj]
 have d1:2 ^ (i+1)*q / 2 ^ j=q / 2 ^ (j-(i+1)):=by
  rw [ej,Nat.mul_div_mul_left _ _ (Nat.two_pow_pos _)]
 have d2:F / 2 ^ j=q / 2 ^ (j-(i+1)):=by
  rw [ej,←Nat.div_div_eq_div_mul]
  congr 1
  rw [Nat.pow_succ,←Nat.div_div_eq_div_mul,hq,Nat.mul_add_div (by decide)]; rfl
 rw [d1,d2]
theorem FF {i n:Nat}(h:i<n+1):List.range' i (n+1-i)=i::List.range' (i+1) (n+1-(i+1)):=by
 rw [Nat.succ_sub (Nat.le_of_lt_succ h),Nat.add_sub_add_right]
 rfl
theorem aKw {F i:Nat}(hi:i<16)(hb:F.testBit i=true):fM F i=i::fM F (i+1):=by
 unfold fM
 rw [FF (n:=15) hi,List.filter_cons,hb]
 rfl
theorem aKx {F i:Nat}(hi:i<16)(hb:F.testBit i=false):fM F i=fM F (i+1):=by
 unfold fM
 rw [FF (n:=15) hi,List.filter_cons,hb]
 rfl
section
variable (cc m:Nm→List PV→Option PV)
theorem FG (F:Nat)(R:List PV)(i:Nat)(hi:i<16)(hR:R.length≤100){σ:Sg}(h0:ex (pfG cc m) (stm kJ 0) σ=some (.next,cB F R i (2 ^ i:Nat))):exs (pfG cc m) kJ σ =
  bif F.testBit i then (bif decide (F-2 ^ i=0) then some (.brk,cB (F-2 ^ i:Nat) (R++[.str (cA i)]) i (2 ^ i:Nat)) else some (.next,cB (F-2 ^ i:Nat) (R++[.str (cA i)]) i (2 ^ i:Nat)))
  else some (.next,cB F R i (2 ^ i:Nat)):=by
 have pos:=Nat.two_pow_pos i
 refine (aL (b:=kJ) 0 (by kernel_rfl) h0).trans ?_
 rw [aKl,aKq]
 cases hb:F.testBit i
 ·have e:(((false.toNat*2 ^ i:Nat):Int) != 0)=false:=by simp
  rw [e]; rfl
 ·have e:(((true.toNat*2 ^ i:Nat):Int) != 0)=true:=by
   rw [Bool.toNat_true,Nat.one_mul]
   exact bne_iff_ne.mpr (Int.natCast_ne_zero.mpr (Nat.ne_of_gt (Nat.two_pow_pos i)))
  rw [e]
  simp only [aHl,aHm,cond_true]
  have c:exs (pfG cc m) pcB (cB F R i (2 ^ i:Nat))=thn (ifC ((some (((F-2 ^ i:Nat):Int) != 0)).map (!·)) (some (.brk,cB (F-2 ^ i:Nat) (R++[.str (cA i)]) i (2 ^ i:Nat))) (some (.next,cB (F-2 ^ i:Nat) (R++[.str (cA i)]) i (2 ^ i:Nat)))):=by
   refine (aL (b:=pcB) 0 (by kernel_rfl) ((cX (aKm cc m F R) hi).trans (oE (by exact Nat.lt_of_le_of_lt hR (by decide))))).trans ?_
   rw [aL (b:=pcB) 1 (by kernel_rfl) (aKn cc m F _ i _),aKs hb,aKo]
  rw [c]
  by_cases hz:F-2 ^ i=0
  ·rw [hz]; rfl
  ·rw [decide_eq_false hz,show (((F-2 ^ i:Nat):Int) != 0)=true from bne_iff_ne.mpr (by exact mt Int.ofNat.inj hz)]
   rfl
theorem FH:∀(n i:Nat) (F:Nat) (R:List PV) (f:Int) (i':Int),i+n=16→F<2 ^ 16→F≠0→F%2 ^ i=0→R.length+n≤100 →
  ∃F' i2 f2,forLoop (pfG cc m).sc (bI (stm pfB 1)) (exs (pfG cc m) kJ) (exs (pfG cc m) (bN (stm pfB 1))) ((List.range' i (32-i)).map fun (k:Nat)=>.int k) (cB F R i' f)=some (.next,cB F' (R++(fM F i).map fun k=>.str (cA k)) i2 f2)
 |0,i,F,R,f,i',hi,h1,h2,h3,_=>by
  exfalso
  have:i=16:=by exact hi
  subst this
  rw [Nat.mod_eq_of_lt h1] at h3
  exact h2 h3
 |n+1,i,F,R,f,i',hi,h1,h2,h3,hR=>by
  have hlt:i<16:=by rw [←hi]; exact Nat.lt_add_of_pos_right (Nat.succ_pos n)
  have step:=FG cc m F R i hlt (by exact Nat.le_trans (Nat.le_add_right _ _) hR) (cX (WZ cc m F R f) hlt)
  have el:=FF (n:=31) (Nat.lt_of_lt_of_le hlt (by decide))
  rw [el,List.map_cons,fJ,WY]
  simp only
  rw [step]
  cases hb:F.testBit i
  ·simp only [cond_false]
   rw [aKx hlt hb]
   exact FH n (i+1) F R _ _ (by rw [Nat.add_right_comm]; exact hi) h1 h2 (aKu h3 hb) (by exact Nat.le_of_lt hR)
  ·simp only [cond_true]
   obtain ⟨l1,l2⟩:=aKv h3 hb
   have eb:fM (F-2 ^ i) (i+1)=fM F (i+1):=by
    unfold fM
    apply List.filter_congr
    intro j hj
    exact l2 j (Nat.lt_of_succ_le (List.mem_range'_1.mp hj).1)
   rw [aKw hlt hb,←eb]
   by_cases hz:F-2 ^ i=0
   ·rw [decide_eq_true hz,hz]
    refine ⟨((0:Nat):Int),i,(2 ^ i:Nat),?_⟩
    have e0:fM 0 (i+1)=[]:=by
     unfold fM
     rw [List.filter_eq_nil_iff]
     intro j _; simp
    rw [e0]
    simp only [cond_true,List.map_cons,List.map_nil]
   ·rw [decide_eq_false hz]
    simp only [cond_false]
    obtain ⟨F',i2,f2,ih⟩:=FH n (i+1) (F-2 ^ i) (R++[.str (cA i)]) (2 ^ i:Nat) i (by rw [Nat.add_right_comm]; exact hi) (by exact Nat.lt_of_le_of_lt (Nat.sub_le _ _) h1) hz l1 (by rw [List.length_append,List.length_singleton]; omega)
    refine ⟨F',i2,f2,ih.trans ?_⟩
    simp
theorem aKy {F k:Nat}(h:k∈hH F):k<16:=List.mem_range.mp (List.mem_filter.mp h).1
theorem aKz (F:Nat)(h1:F<2 ^ 16)(h2:F≠0):dH (exs (pfG cc m) pfB [(nm "flags",.fz (.int F))])=some (.str (eY ((hH F).map cA))):=by
 show dH (exs _ (bM pfB 0) _)=_
 rw [aL (b:=pfB) 0 (by kernel_rfl) (aKh cc m F)]
 have hb:fM F 0=hH F:=by unfold fM hH; rw [List.range_eq_range']
 have l:∃F' i f,ex (pfG cc m) (stm pfB 1) (sp0 F [] [])=some (.next,cB F' ((hH F).map fun k=>.str (cA k)) i f):=by
  obtain ⟨F',i,f,h⟩:=FH cc m 16 0 F [] 0 0 rfl h1 h2 (Nat.mod_one _) (by decide)
  rw [hb,List.nil_append] at h
  refine ⟨F',i,f,?_⟩
  rw [aKi]
  refine Eq.trans ?_ h
  have e:(List.range' 0 (32-0)).map (fun (k:Nat)=>PV.int k)=.int 0::((List.range' 1 31).map fun (k:Nat)=>PV.int k):=rfl
  rw [List.range_eq_range',show List.range' 0 32=List.range' 0 (32-0) from rfl,e,fJ,fJ,aKj,WY]
  simp only
  rw [show (0:Int)=((0:Nat):Int) from rfl,FG cc m F [] 0 (by decide) (by decide) (cX (aKk cc m F []) (by decide)),FG cc m F [] 0 (by decide) (by decide) (cX (WZ cc m F [] _) (by decide))]
 obtain ⟨F',i,f,l⟩:=l
 rw [aL (b:=pfB) 1 (by kernel_rfl) l]
 have e:=aKp cc m F' ((hH F).map fun k=>.str (cA k)) i f
 rw [WX (hH F) (fun k hk=>aKy hk) (Nat.le_trans (List.length_filter_le _ _) (by decide))] at e
 rw [mK (b:=pfB) (d:=.str (eY ((hH F).map cA))) 2 (by kernel_rfl) e]
 rfl
end
theorem aK0 (n:Nat)(F:Nat)(h1:F<2 ^ 16)(h2:F≠0):(O (n+1)).call mJ [.int F]=some (.str (eY ((hH F).map cA))):=
 gQ (D:=df mJ) (by kernel_rfl) (by kernel_rfl) (by kernel_rfl) (aKz _ _ F h1 h2)
theorem aK1 (n:Nat):(O (n+1)).call mJ [.int 0]=some (.str yA):=by kernel_rfl
open N
noncomputable def mS:Nm:=nm "_law_named"
noncomputable def naB:List S:=(df mS).body
noncomputable def eE (x:Nat):List Nat:=(List.range 5).filter x.testBit
noncomputable def lm:List (Nat × Nat):=(List.range 6).flatMap fun L=>(List.range (2 ^ L)).map fun x=>(L,x)
theorem aK2 {L x:Nat}(h:L<6)(hx:x<2 ^ L):(L,x)∈lm:=List.mem_flatMap.mpr ⟨L,List.mem_range.mpr h,List.mem_map.mpr ⟨x,List.mem_range.mpr hx,rfl⟩⟩
noncomputable def jN (L:Nat)(lt:Nat→Nat):List PV:=nPV ((List.range L).map lt)
noncomputable def FJ (o:Option EV):Option EV:=(iY [o]).bind fun l=>(tA sW l).bind mkV
section
variable (cc m:Nm→List PV→Option PV)
noncomputable abbrev naG:Gl:=GD cc m (df mS)
noncomputable abbrev nS (x:Int)(l:List PV)(X:Sg):Sg:=(nm "number",.fz (.int x))::(nm "letters",.fz (.list l))::X
noncomputable abbrev nS1 (x:Int)(l q:List PV):Sg:=nS x l [(nm "masks",.fz (.list q))]
theorem aK3 (x:Int)(lt:Nat→Nat):(List.range 6).map (fun L=>ex (naG cc m) (stm naB 0) (nS x (jN L lt) []))=aH (List.range 6) fun L=>eC (naG cc m) (nm "masks") (aJ (stm naB 0)) (nS x (jN L lt) []) ((compLoop (lcF (naG cc m) (aJ (stm naB 0)) (nS x (jN L lt) [])) (nPV (List.range (2 ^ L)))).bind fun l=>mkV (.list l)):=by kernel_rfl
theorem aK4 (x:Int)(l:List PV):(List.range 32).map (fun (k:Nat)=>lcF (naG cc m) (aJ (stm naB 0)) (nS x l []) (.int k))=aH (List.range 32) fun (k:Nat)=>rJ (Builtin.bitAnd (x.fdiv (2 ^ k:Nat)) 1==1) (.int k):=by kernel_rfl
theorem aK5 (x:Int)(l q:List PV):eC (naG cc m) (nm "masks") (aJ (stm naB 0)) (nS x l []) (some (.v (.list q)))=some (.next,nS1 x l q):=by kernel_rfl
theorem aK6 (x:Int)(l q:List PV):ex (naG cc m) (stm naB 1) (nS1 x l q)=jJ (FJ ((compLoop (lcF (naG cc m) (kid 0 (aJ (stm naB 1))) (nS1 x l q)) q).bind fun l=>mkV (.list l))) (nS1 x l q):=by kernel_rfl
theorem aK7 (x:Int)(lt:Nat→Nat)(q:List PV):lm.map (fun p=>lcF (naG cc m) (kid 0 (aJ (stm naB 1))) (nS1 x (jN p.1 lt) q) (.int p.2))=aH lm fun p=>cR (cc rB [.list (nPV ((eE p.2).map lt))]):=by kernel_rfl
end
theorem aK8 (x k:Nat):(Builtin.bitAnd ((x:Int).fdiv (2 ^ k:Nat)) 1==1)=x.testBit k:=by
 rw [show (x:Int).fdiv ((2 ^ k:Nat):Int)=((x / 2 ^ k:Nat):Int) from (Int.fdiv_eq_ediv_of_nonneg _ (Int.natCast_nonneg _)).trans (Int.natCast_ediv _ _).symm]
 rw [show (1:Int)=((1:Nat):Int) from rfl,mL,Nat.and_one_is_mod,Nat.testBit_eq_decide_div_mod_eq,Bool.eq_iff_iff,beq_iff_eq,decide_eq_true_eq]
 exact Int.ofNat_inj
noncomputable def hJ (ws:List (List Nat)):List PV:=(fS (ws.map mkT)).map iX
theorem aK9 (ws:List (List Nat)):lT (ws.map .str)=some (hJ ws):=by
 cases ws with
 |nil=>rfl
 |cons w r=>
  show (lQ ((w::r).map .str)).map (fun ss=>(fS ss).map iX)=_
  rw [FB]
  rfl
theorem XB (x:PySem.Str):∀l,(iW x l).length=l.length+1
 |[]=>rfl
 |y::r=>by
  rw [BC]
  cases Spec.ltCps y.cps.toList x.cps.toList
  ·rfl
  ·show (iW x r).length+1=_; rw [XB x r]; rfl
theorem XC:∀l,(fS l).length=l.length
 |[]=>rfl
 |x::r=>by rw [aBP,XB,XC r]; rfl
theorem XD (ws:List (List Nat))(h:ws.length<64):FJ (some (.v (.list (ws.map .str))))=some (.v (.list (hJ ws))):=by
 show ((bif decide ((ws.map PV.str).length<64) then (lT (ws.map .str)).map PV.list else none).bind mkV)=_
 rw [decide_eq_true (by rw [List.length_map]; exact h),aK9]
 show mkV (.list (hJ ws))=_
 rw [eV]
 unfold hJ
 rw [List.length_map,XC,List.length_map]; exact Nat.le_of_lt (Nat.lt_of_lt_of_le h (by decide))
noncomputable def fO (ls:List Nat)(x:Nat):List Nat:=wdL (cU ((eE x).map fun b=>ls.getD b 0))
theorem XE (L x:Nat)(h:L≤5):(eD L x).length≤32:=Nat.le_trans (List.length_filter_le _ _) (by rw [List.length_range]; exact (Nat.pow_le_pow_right (by decide) h:2 ^ L≤2 ^ 5))
theorem XF {L x k:Nat}(h:k∈eD L x):k<2 ^ L:=List.mem_range.mp (List.mem_filter.mp h).1
theorem XG {ls:List Nat}(h:∀k∈ls,k<16)(b:Nat):ls.getD b 0<16:=by
 rw [List.getD_eq_getElem?_getD]
 cases e:ls[b]? with
 |none=>decide
 |some x=>exact h x (List.mem_of_getElem? e)
theorem aKA (n:Nat)(ls:List Nat)(h16:∀k∈ls,k<16)(hl:ls.length≤5)(x:Nat):(O (n+2)).call mS [.int x,.list (nPV ls)]=some (.list (hJ ((eD ls.length x).map (fO ls)))):=by
 refine gQ (D:=df mS) (by kernel_rfl) (by kernel_rfl) (by kernel_rfl) ?_
 rw [show dB (df mS).params [.int x,.list (nPV ls)]=nS x (nPV ls) [] from by kernel_rfl]
 generalize hcc:(O (n+1)).call=cc
 generalize (O (n+1)).meth=m
 have hn:nPV ls=jN ls.length fun b=>ls.getD b 0:=by unfold jN; rw [EY]
 have hL:ls.length<6:=Nat.lt_succ_of_le hl
 have p32:2 ^ ls.length≤32:=(Nat.pow_le_pow_right (by decide) hl:2 ^ ls.length≤2 ^ 5)
 have ml:=XE ls.length x hl
 have s0:=cX (aK3 cc m x fun b=>ls.getD b 0) hL
 rw [←hn] at s0
 have e0:compLoop (lcF (naG cc m) (aJ (stm naB 0)) (nS x (nPV ls) [])) (nPV (List.range (2 ^ ls.length)))=some (nPV (eD ls.length x)):=
  xS fun k hk=>(cX (aK4 cc m x (nPV ls)) (Nat.lt_of_lt_of_le (List.mem_range.mp hk) p32)).trans (by rw [uA,aK8])
 rw [e0,Option.bind_some,eV _ (by rw [jK]; exact Nat.le_trans ml (by decide))] at s0
 have s0:=s0.trans (aK5 cc m x _ _)
 have s1:=aK6 cc m x (nPV ls) (nPV (eD ls.length x))
 have e1:compLoop (lcF (naG cc m) (kid 0 (aJ (stm naB 1))) (nS1 x (nPV ls) (nPV (eD ls.length x)))) (nPV (eD ls.length x))=some (((eD ls.length x).map (fO ls)).map .str):=by
  rw [List.map_map]
  refine fZ (k:=PV.str ∘ fO ls) fun k hk=>?_
  have h:=bA (aK7 cc m x (fun b=>ls.getD b 0) (nPV (eD ls.length x))) (aK2 hL (XF hk))
  rw [←hn] at h
  refine h.trans ?_
  rw [←hcc,aKg n _ (fun z hz=>by obtain ⟨b,_,rfl⟩:=List.mem_map.mp hz; exact XG h16 b) (by rw [List.length_map]; exact Nat.le_trans (List.length_filter_le _ _) (by decide))]
  rfl
 rw [e1,Option.bind_some,eV _ (by rw [List.length_map,List.length_map]; exact Nat.le_trans ml (by decide)),XD _ (by rw [List.length_map]; exact Nat.lt_of_le_of_lt ml (by decide))] at s1
 show dH (exs (naG cc m) (bM naB 0) _)=_
 rw [aL (b:=naB) 0 (by kernel_rfl) s0,mK (b:=naB) (d:=.list (hJ ((eD ls.length x).map (fO ls)))) 1 (by kernel_rfl) s1]
 rfl
open N
open List (Perm)
theorem XH (x:Nat):∀l:List Nat,Perm (iL x l) (x::l)
 |[]=>.refl _
 |y::r=>by
  rw [uD]
  cases decide (x≤y)
  ·exact ((XH x r).cons y).trans (.swap x y r)
  ·exact .refl _
theorem yB:∀l:List Nat,Perm (cU l) l
 |[]=>.refl _
 |x::r=>(XH x _).trans ((yB r).cons x)
theorem XI (x:Nat):∀l:List Nat,l.Pairwise (·≤·)→(iL x l).Pairwise (·≤·)
 |[],_=>List.pairwise_singleton _ _
 |y::r,h=>by
  rw [uD]
  obtain ⟨h1,h2⟩:=List.pairwise_cons.mp h
  by_cases hx:x≤y
  ·rw [decide_eq_true hx]
   exact List.pairwise_cons.mpr ⟨fun z hz=>(List.mem_cons.mp hz).elim (fun e=>e▸hx) fun hz=>Nat.le_trans hx (h1 z hz),h⟩
  ·rw [decide_eq_false hx]
   exact List.pairwise_cons.mpr ⟨fun z hz=>(FC hz).elim (fun e=>by omega) (h1 z),XI x r h2⟩
theorem XJ:∀l:List Nat,(cU l).Pairwise (·≤·)
 |[]=>.nil
 |x::r=>XI x _ (XJ r)
theorem FK (x:PySem.Str):∀l:List PySem.Str,Perm (iW x l) (x::l)
 |[]=>.refl _
 |y::r=>by
  rw [BC]
  cases Spec.ltCps y.cps.toList x.cps.toList
  ·exact .refl _
  ·exact ((FK x r).cons y).trans (.swap x y r)
theorem yC:∀l:List PySem.Str,Perm (fS l) l
 |[]=>.refl _
 |x::r=>(FK x _).trans ((yC r).cons x)
noncomputable abbrev yD (a b:PySem.Str):Prop:=a.cps.toList≤b.cps.toList
theorem XK (x:PySem.Str):∀l:List PySem.Str,l.Pairwise yD→(iW x l).Pairwise yD
 |[],_=>List.pairwise_singleton _ _
 |y::r,h=>by
  rw [BC]
  obtain ⟨h1,h2⟩:=List.pairwise_cons.mp h
  rw [ltCps_eq]
  by_cases hx:y.cps.toList<x.cps.toList
  ·rw [decide_eq_true hx]
   exact List.pairwise_cons.mpr ⟨fun z hz=>(List.mem_cons.mp ((FK x r).mem_iff.mp hz)).elim (fun e=>e▸List.le_of_lt hx) (h1 z),XK x r h2⟩
  ·rw [decide_eq_false hx]
   have hx:=List.not_lt.mp hx
   exact List.pairwise_cons.mpr ⟨fun z hz=>(List.mem_cons.mp hz).elim (fun e=>e▸hx) fun hz=>List.le_trans hx (h1 z hz),h⟩
theorem FL:∀l:List PySem.Str,(fS l).Pairwise yD
 |[]=>.nil
 |x::r=>XK x _ (FL r)
theorem aKB {l l':List PySem.Str}(h:Perm l l'):fS l=fS l':=
 Perm.eq_of_pairwise (le:=yD) (fun a b zz zz h1 h2=>PySem.Str.ext' (Array.toList_inj.mp (List.le_antisymm h1 h2))) (FL l) (FL l') ((yC l).trans (h.trans (yC l').symm))
theorem aKC {l l':List (List Nat)}(h:Perm l l'):hJ l=hJ l':=by
 unfold hJ; rw [aKB (h.map mkT)]
noncomputable def eqN:List Nat→List Nat→Bool
 |[],[]=>true
 |a::l,b::m=>Nat.beq a b && eqN l m
 |_,_=>false
theorem FM:∀{a b:List Nat},eqN a b=true→a=b
 |[],[],_=>rfl
 |x::a,y::b,h=>by
  have h:(Nat.beq x y && eqN a b)=true:=h
  simp only [Bool.and_eq_true] at h
  rw [Nat.eq_of_beq_eq_true h.1,FM h.2]
noncomputable def phi (ls:List Nat)(x:Nat):Nat:=(eE x).foldr (fun b s=>2 ^ ls.getD b 0 ||| s) 0
theorem rL (ls:List Nat)(x j:Nat):(phi ls x).testBit j=(eE x).any fun b=>ls.getD b 0==j:=by
 unfold phi
 induction eE x with
 |nil=>simp
 |cons b r ih=>
  rw [List.foldr_cons,Nat.testBit_or,ih,List.any_cons,Nat.testBit_two_pow]
  rfl
theorem XM {x b:Nat}:b∈eE x↔b<5∧x.testBit b=true:=by
 unfold eE; rw [List.mem_filter,List.mem_range]
theorem aKD (ls:List Nat)(x y:Nat):phi ls (x ||| y)=phi ls x ||| phi ls y:=by
 apply Nat.eq_of_testBit_eq
 intro j
 rw [Nat.testBit_or,rL,rL,rL,Bool.eq_iff_iff]
 simp only [List.any_eq_true,Bool.or_eq_true,XM,Nat.testBit_or]
 constructor
 ·rintro ⟨b,⟨h1,h2 |h2⟩,h3⟩
  ·exact .inl ⟨b,⟨h1,h2⟩,h3⟩
  ·exact .inr ⟨b,⟨h1,h2⟩,h3⟩
 ·rintro (⟨b,⟨h1,h2⟩,h3⟩ |⟨b,⟨h1,h2⟩,h3⟩)
  ·exact ⟨b,⟨h1,.inl h2⟩,h3⟩
  ·exact ⟨b,⟨h1,.inr h2⟩,h3⟩
theorem aKE (ls:List Nat){p:Nat}(h:p<5):phi ls (2 ^ p)=2 ^ ls.getD p 0:=by
 have:eE (2 ^ p)=[p]:=by
  have t:(List.range 5).all (fun p=>eE (2 ^ p)==[p])=true:=by decide +kernel
  exact beq_iff_eq.mp (List.all_eq_true.mp t p (List.mem_range.mpr h))
 unfold phi
 rw [this]
 simp
section
variable {ls:List Nat}(h16:∀k∈ls,k<16)(nd:ls.Nodup)
theorem FN {b:Nat}(hb:b<ls.length):ls.getD b 0∈ls∧ls.getD b 0=ls[b]:=by
 rw [List.getD_eq_getElem?_getD,List.getElem?_eq_getElem hb]
 exact ⟨List.getElem_mem hb,rfl⟩
include nd in
theorem XN {b:Nat}(hb:b<ls.length):ls.idxOf (ls.getD b 0)=b:=by
 rw [(FN hb).2]
 exact nd.idxOf_getElem b hb
theorem yE {x b:Nat}(hx:x<2 ^ ls.length)(hb:b∈eE x):b<ls.length:=by
 have:=Nat.ge_two_pow_of_testBit (XM.mp hb).2
 exact (Nat.pow_lt_pow_iff_right (by decide)).mp (Nat.lt_of_le_of_lt this hx)
include nd in
theorem aKF {x:Nat}(hx:x<2 ^ ls.length):((eE x).map fun b=>ls.getD b 0).Nodup:=by
 have h0:(eE x).Nodup:=List.Nodup.sublist List.filter_sublist List.nodup_range
 unfold List.Nodup at h0 ⊢
 rw [List.pairwise_map]
 refine List.Pairwise.imp_of_mem ?_ h0
 intro a b ha hb hab e
 have:=congrArg ls.idxOf e
 rw [XN nd (yE hx ha),XN nd (yE hx hb)] at this
 exact hab this
include nd in
include h16 in
theorem XO {x:Nat}(hx:x<2 ^ ls.length):hH (phi ls x)=cU ((eE x).map fun b=>ls.getD b 0):=by
 refine Perm.eq_of_pairwise (le:=(·≤·)) (fun a b zz zz h1 h2=>Nat.le_antisymm h1 h2) ?_ (XJ _) ?_
 ·have:(hH (phi ls x)).Pairwise (· < ·):=List.Pairwise.sublist List.filter_sublist List.pairwise_lt_range
  exact this.imp Nat.le_of_lt
 ·refine Perm.trans ?_ (yB _).symm
  refine (List.perm_ext_iff_of_nodup (List.Nodup.sublist List.filter_sublist List.nodup_range) (aKF nd hx)).mpr fun k=>?_
  rw [List.mem_filter,List.mem_range,rL,List.mem_map]
  simp only [List.any_eq_true,beq_iff_eq]
  constructor
  ·rintro ⟨_,b,hb,e⟩; exact ⟨b,hb,e⟩
  ·rintro ⟨b,hb,e⟩
   exact ⟨e▸h16 _ (FN (yE hx hb)).1,b,hb,e⟩
include h16 in
theorem aKG {x:Nat}(hx:x<2 ^ ls.length):phi ls x<2 ^ 16:=by
 apply Nat.lt_pow_two_of_testBit
 intro j hj
 rw [rL,List.any_eq_false]
 intro b hb e
 have:=h16 _ (FN (yE hx hb)).1
 rw [beq_iff_eq.mp e] at this
 exact (Nat.lt_irrefl _ (Nat.lt_of_le_of_lt hj this)).elim
theorem aKH {x b:Nat}(h:b∈eE x):phi ls x≠0:=fun e=>by
 have hbit:=rL ls x (ls.getD b 0)
 rw [e,Nat.zero_testBit] at hbit
 exact Bool.false_ne_true (hbit.trans (List.any_eq_true.mpr ⟨b,h,beq_self_eq_true _⟩))
include nd in
include h16 in
theorem aKI (n:Nat){x:Nat}(hx:x<2 ^ ls.length):(O (n+1)).call mJ [.int (phi ls x:Nat)]=some (.str (fO ls x)):=by
 unfold fO
 rw [←XO h16 nd hx]
 cases hb:eE x with
 |nil=>
  have e:phi ls x=0:=by unfold phi; rw [hb]; rfl
  rw [e]
  exact aK1 n
 |cons b r=>
  have hm:b∈eE x:=hb▸.head _
  rw [aK0 n _ (aKG h16 hx) (aKH hm)]
  have e:(hH (phi ls x)).isEmpty=false:=by
   rw [XO h16 nd hx,hb,List.map_cons]
   cases hs:cU (ls.getD b 0::r.map fun b=>ls.getD b 0) with
   |nil=>
    have:=congrArg List.length hs
    rw [xZ] at this
    cases this
   |cons y l=>rfl
  unfold wdL
  rw [e]
  rfl
end
open N
noncomputable def rM (v:Nat→Nat)(i:Nat):Nat:=(dL.filter (lf v)).idxOf i
noncomputable def down:List Nat:=[5,4,3,2,1]
noncomputable abbrev yF (a:Nat→Bool)(v:Nat→Nat):Nat→Net:=eW a (lf v) (rM v)
noncomputable def oL (a:Nat→Bool)(v:Nat→Nat):Net:=down.foldl (oH a v) (yF a v) 0
noncomputable def iM (v:Nat→Nat):Nat:=(dL.filter (lf v)).length
noncomputable def rN (w:List (Nat × Nat) × Nat):Nat:=(w.1.reverse.foldl (fun x p=>x*64+(p.1+8*p.2)) 0)*64+(w.1.length*8+w.2)
noncomputable def fnd:List (Nat × Nat)→Nat→Option Nat
 |[],_=>none
 |p::r,c=>bif Nat.beq p.1 c then some p.2 else fnd r c
noncomputable def rO (a:Nat→Bool)(i:Nat):Bool:=!a i
noncomputable def yG (w:List (Nat × Nat) × Nat)(k:Nat→Nat→Bool):Bool:=(fnd dT (rN w)).any fun d=>decide (eX (rN w)=w) && k (rN w) d
noncomputable def chk (v:Nat→Nat)(a:Nat→Bool):Bool:=
 yG (jL a v) (fun c d=>eqN (cU (oL a v).1) (eD (iM v) d)) && yG (jL (rO a) v) (fun c e=>decide (szD c=iM v) && eqN (cU (oL a v).2) (eD (iM v) (FA (iM v) e))) &&
  (okL a v down (yF a v) && okW a v dL oK && okW (rO a) v dL oK)
noncomputable def vOf (l:List Nat)(i:Nat):Nat:=l.getD i 0
noncomputable def aOf (l:List Bool)(i:Nat):Bool:=l.getD i false
noncomputable def mT:Nat→List (List Nat)
 |0=>[[0]]
 |n+1=>(mT n).flatMap fun l=>(List.range (n+1)).map fun c=>l++[c]
noncomputable def yH (v:Nat→Nat):Nat→List (List Bool)
 |0=>[[]]
 |n+1=>(yH v n).flatMap fun l=>bif lf v n then [l++[false]] else [l++[false],l++[true]]
noncomputable def kK (k:Nat):Bool:=(((mT 5).drop (15*k)).take 15).all fun l=>(yH (vOf l) 6).all fun b=>chk (vOf l) (aOf b)
theorem aKJ:(mT 5).all (fun l=>dL.all fun i=>decide ((i,under (vOf l) i)∈iu))=true:=by kernel_rfl
theorem aKK:kK 0=true:=by kernel_rfl
open N
open List (Perm)
theorem aKL:kK 1=true:=by kernel_rfl
theorem aKM:kK 2=true:=by kernel_rfl
theorem aKN:kK 3=true:=by kernel_rfl
theorem aKO:kK 4=true:=by kernel_rfl
theorem aKP:kK 5=true:=by kernel_rfl
theorem aKQ:kK 6=true:=by kernel_rfl
theorem aKR:kK 7=true:=by kernel_rfl
theorem aKS {l:List Nat}(h:l∈mT 5){b:List Bool}(hb:b∈yH (vOf l) 6):chk (vOf l) (aOf b)=true:=by
 have all:∀k∈List.range 8,kK k=true:=by
  rw [show List.range 8=[0,1,2,3,4,5,6,7] from rfl]
  simp only [List.forall_mem_cons]
  exact ⟨aKK,aKL,aKM,aKN,aKO,aKP,aKQ,aKR,List.forall_mem_nil _⟩
 have len:(mT 5).length=120:=by kernel_rfl
 obtain ⟨i,hi,e⟩:=List.getElem_of_mem h
 rw [len] at hi
 have h2:=all (i / 15) (List.mem_range.mpr (Nat.div_lt_of_lt_mul hi))
 have hm:l∈((mT 5).drop (15*(i / 15))).take 15:=by
  rw [List.mem_take_iff_getElem]
  refine ⟨i%15,by rw [List.length_drop,len]; exact Nat.lt_min.mpr ⟨Nat.mod_lt _ (by decide),Nat.lt_sub_of_add_lt (by rw [Nat.mod_add_div]; exact hi)⟩,?_⟩
  rw [List.getElem_drop,←e]
  congr 1; exact Nat.div_add_mod i 15
 exact List.all_eq_true.mp (List.all_eq_true.mp h2 l hm) b hb
theorem XQ {c d:Nat}:∀{l:List (Nat × Nat)},fnd l c=some d→(c,d)∈l
 |[],h=>by cases h
 |p::r,h=>by
  have h:(bif Nat.beq p.1 c then some p.2 else fnd r c)=some d:=h
  cases hb:Nat.beq p.1 c with
  |true=>
   rw [hb] at h
   rw [←Nat.eq_of_beq_eq_true hb,←Option.some.inj h]
   exact .head _
  |false=>rw [hb] at h; exact .tail _ (XQ h)
theorem XR {w:List (Nat × Nat) × Nat}{k:Nat→Nat→Bool}(h:yG w k=true):∃c d,(c,d)∈dT∧eX c=w∧k c d=true:=by
 unfold yG at h
 cases hf:fnd dT (rN w) with
 |none=>rw [hf] at h; cases h
 |some d=>
  rw [hf] at h
  have h:(decide (eX (rN w)=w) && k (rN w) d)=true:=h
  simp only [Bool.and_eq_true,decide_eq_true_eq] at h
  exact ⟨_,d,XQ hf,h⟩
theorem XS:∀(l:List Int) (m:Int),m≤gR m l∧(∀x∈l,x≤gR m l)∧(gR m l=m∨gR m l∈l)
 |[],m=>⟨Int.le_refl _,nofun,.inl rfl⟩
 |x::r,m=>by
  obtain ⟨h1,h2,h3⟩:=XS r (bif decide (m<x) then x else m)
  show m≤gR _ r∧(∀y∈x::r,y≤gR _ r)∧(gR _ r=m∨gR _ r∈x::r)
  have hx:m≤(bif decide (m<x) then x else m)∧x≤(bif decide (m<x) then x else m):=by
   by_cases h:m<x
   ·rw [decide_eq_true h]; exact ⟨Int.le_of_lt h,Int.le_refl _⟩
   ·rw [decide_eq_false h]; exact ⟨Int.le_refl _,Int.not_lt.mp h⟩
  refine ⟨Int.le_trans hx.1 h1,fun y hy=>?_,h3.elim (fun e=>?_) fun e=>.inr (.tail _ e)⟩
  ·cases hy with
   |head=>exact Int.le_trans hx.2 h1
   |tail _ hy=>exact h2 y hy
  ·rw [e]
   cases decide (m<x)
   ·exact .inl rfl
   ·exact .inr (.head _)
theorem aKT:(List.range 36).all (fun r=>(nlZ 0 (r+1)).isEmpty)=true:=by kernel_rfl
section
variable (X:Nat→Int)
noncomputable def pgP (i:Nat):Int:=(X i).fdiv 36
noncomputable def pgR:Nat→Nat
 |0=>0
 |i+1=>r36 (X (i+1))+1
noncomputable def pgU (i:Nat):Int:=xV (pgE (pgR X)) i
noncomputable def pgL:List Nat:=[0,(pgU X 1).toNat,(pgU X 2).toNat,(pgU X 3).toNat,(pgU X 4).toNat,(pgU X 5).toNat]
noncomputable def pgV:Nat→Nat:=vOf (pgL X)
noncomputable def pgF:Nat→Bool:=lf (pgV X)
noncomputable def pgK (i:Nat):Int:=kd (pgP X) (pgU X) i
noncomputable def pgS (i:Nat):Int:=(kA 0 (aM (pgP X))+i).fmod 16
noncomputable def pgN (i:Nat):Nat:=(pgS X i).toNat
noncomputable def pgT (i:Nat):List Nat:=bif pgF X i then ld (pgR X i)++[97+pgN X i] else ld (pgR X i)
noncomputable def pgO (i:Nat):Int:=bif pgF X i then 0 else 7+(pgP X i).fmod 48
theorem iN (i:Nat):pgR X i<37:=by
 cases i with
 |zero=>show 0<37; decide
 |succ i=>have:=ED (X (i+1)); show r36 (X (i+1))+1<37; exact Nat.lt_succ_of_le this
theorem XT {i:Nat}(h1:1≤i):0≤pgU X i∧pgU X i<i:=by
 obtain ⟨_,h2,h3⟩:=XS (((List.range i).filter (pgE (pgR X) i)).map fun (x:Nat)=>(x:Int)) (-1)
 have h0:pgE (pgR X) i 0=true:=by
  obtain ⟨i,rfl⟩:∃k,i=k+1:=⟨i-1,(Nat.sub_add_cancel h1).symm⟩
  exact List.all_eq_true.mp aKT (r36 (X (i+1))) (List.mem_range.mpr (ED _))
 have h4:(0:Int)≤pgU X i:=h2 0 (List.mem_map.mpr ⟨0,List.mem_filter.mpr ⟨List.mem_range.mpr h1,h0⟩,rfl⟩)
 refine ⟨h4,h3.elim (fun e=>?_) fun e=>?_⟩
 ·have e:pgU X i=-1:=e
  rw [e] at h4; exact absurd h4 (by decide)
 ·obtain ⟨x,hx,e⟩:=List.mem_map.mp e
  have e:(x:Int)=pgU X i:=e
  rw [←e]
  exact Int.ofNat_lt.mpr (List.mem_range.mp (List.mem_filter.mp hx).1)
theorem rP {i:Nat}(h1:1≤i)(h6:i<6):pgV X i<i∧pgU X i=(pgV X i:Int):=by
 have h:=XT X h1
 have e:∀i∈is5,pgV X i=(pgU X i).toNat:=by
  unfold is5
  simp only [List.forall_mem_cons]
  exact ⟨rfl,rfl,rfl,rfl,rfl,List.forall_mem_nil _⟩
 rw [e i ((by decide:∀i∈List.range 6,1≤i→i∈is5) i (List.mem_range.mpr h6) h1)]
 exact ⟨(Int.toNat_lt h.1).mpr h.2,(Int.toNat_of_nonneg h.1).symm⟩
theorem aKU:pgU X 0=-1:=rfl
theorem aKV (i:Nat):inU (pgU X) i=!pgF X i:=by
 have e:inU (pgU X) i=((pgU X 0==(i:Int)) || is5.any fun j=>pgU X j==(i:Int)):=rfl
 have e2:(is5.any fun j=>pgU X j==(i:Int))=is5.any fun j=>pgV X j==i:=by
  rw [Bool.eq_iff_iff]
  simp only [List.any_eq_true,beq_iff_eq]
  constructor
  ·rintro ⟨j,hj,e⟩
   exact ⟨j,hj,Int.ofNat_inj.mp ((rP X (mR hj).1 (mR hj).2).2.symm.trans e)⟩
  ·rintro ⟨j,hj,e⟩
   exact ⟨j,hj,(rP X (mR hj).1 (mR hj).2).2.trans (congrArg Int.ofNat e)⟩
 rw [e,e2,aKU,show ((-1:Int)==(i:Int))=false from beq_eq_false_iff_ne.mpr (Int.ne_of_lt (Int.lt_of_lt_of_le (by decide) (Int.natCast_nonneg i))),Bool.false_or]
 unfold pgF lf
 rw [Bool.not_not]
theorem XU (i:Nat):pgK X i=bif pgF X i then (pgN X i:Int) else -1:=by
 unfold pgK kd
 rw [aKV X]
 cases pgF X i
 ·rfl
 ·exact (Int.toNat_of_nonneg (eS (kA 0 (aM (pgP X))+i) (k:=16) (by decide)).1).symm
theorem yI (i:Nat):pgN X i<16:=by
 have:=eS (kA 0 (aM (pgP X))+i) (k:=16) (by decide)
 unfold pgN pgS; exact (Int.toNat_lt this.1).mpr this.2
theorem aKW {i j:Nat}(hi:i<6)(hj:j<6)(e:pgN X i=pgN X j):i=j:=by
 have a:=eS (kA 0 (aM (pgP X))+i) (k:=16) (by decide)
 have b:=eS (kA 0 (aM (pgP X))+j) (k:=16) (by decide)
 unfold pgN pgS at e
 have e:=(Int.toNat_of_nonneg a.1).symm.trans ((congrArg Int.ofNat e).trans (Int.toNat_of_nonneg b.1))
 rw [Int.fmod_eq_emod_of_nonneg _ (by decide),Int.fmod_eq_emod_of_nonneg _ (by decide)] at e
 clear a b
 omega
theorem aKX:xX (pgT X) (pgO X) (pgF X) (pgN X) where
 leaf i hi h:=by
  refine ⟨by unfold pgO; rw [h]; rfl,yI X i,ld (pgR X i),?_,by unfold pgT; rw [h]; rfl⟩
  have:=tX (iN X i); exact Nat.le_trans this (by decide)
 node i hi h:=by
  have:=eS (pgP X i) (k:=48) (by decide)
  unfold pgO; rw [h]
  exact Int.add_pos_of_pos_of_nonneg (by decide) this.1
theorem XV (j:Nat):(pgO X j==0)=pgF X j:=by
 have:=eS (pgP X j) (k:=48) (by decide)
 unfold pgO
 cases pgF X j
 ·show (7+(pgP X j).fmod 48==0)=false
  exact beq_eq_false_iff_ne.mpr (Int.ne_of_gt (Int.add_pos_of_pos_of_nonneg (by decide) this.1))
 ·rfl
theorem XW:(is7.map fun i=>rwP (pgR X i) (pgP X i) (pgK X i))=eU (pgT X) (pgO X):=by
 have h:∀i,rwP (pgR X i) (pgP X i) (pgK X i)=.tuple [.str (pgT X i),.int (pgO X i)]:=by
  intro i
  unfold rwP pgT pgO
  rw [XU X]
  cases pgF X i
  ·rfl
  ·simp only [cond_true]
   rw [decide_eq_false (show ¬ (pgN X i:Int)<0 by exact Int.not_lt.mpr (Int.natCast_nonneg _)),Int.toNat_natCast]
   rfl
 rw [funext h]
 rfl
theorem XX:∀(n:Nat) (f:Nat→Nat),(∀i,i<n→f i<i+1)→(0::(List.range n).map f)∈mT n
 |0,_,_=>.head _
 |n+1,f,h=>by
  refine List.mem_flatMap.mpr ⟨_,XX n f fun i hi=>h i (by exact Nat.le_succ_of_le hi),?_⟩
  refine List.mem_map.mpr ⟨f n,List.mem_range.mpr (h n (by exact Nat.le_refl _)),?_⟩
  rw [List.range_succ,List.map_append]
  rfl
theorem XY:pgL X∈mT 5:=XX 5 (fun i=>(pgU X (i+1)).toNat) fun i zz=>by
 have:=XT X (i:=i+1) (Nat.succ_pos _)
 exact (Int.toNat_lt this.1).mpr this.2
theorem XZ:xY (pgU X) (pgV X) where
 z:=rfl
 u _ h1 h6:=rP X h1 h6
 iu i hi:=of_decide_eq_true (List.all_eq_true.mp (List.all_eq_true.mp aKJ _ (XY X)) i ((by decide:∀i∈List.range 6,i∈dL) i (List.mem_range.mpr hi)))
theorem YA (v:Nat→Nat)(a:Nat→Bool)(h:∀i,lf v i=true→a i=false):∀n,(List.range n).map a∈yH v n
 |0=>.head _
 |n+1=>by
  refine List.mem_flatMap.mpr ⟨_,YA v a h n,?_⟩
  rw [List.range_succ,List.map_append]
  cases hl:lf v n
  ·cases ha:a n <;> simp [ha]
  ·simp [h n hl]
theorem YB {i:Nat}(h:pgF X i=true):aR (pgO X) i=false:=by
 unfold aR pgO
 rw [h]; rfl
theorem aKY:aOf ((List.range 6).map (aR (pgO X)))=aR (pgO X):=by
 funext i
 unfold aOf
 by_cases hi:i<6
 ·rw [List.getD_eq_getElem?_getD,List.getElem?_map,List.getElem?_range hi]; rfl
 ·rw [List.getD_eq_getElem?_getD,List.getElem?_eq_none (by simp; exact Nat.not_lt.mp hi)]
  refine (YB X ?_).symm
  unfold pgF lf
  rw [Bool.not_eq_true',List.any_eq_false]
  intro j hj e
  have h:=(rP X (mR hj).1 (mR hj).2).1
  have h2:=(mR hj).2
  rw [beq_iff_eq] at e
  omega
theorem aKZ:chk (pgV X) (aR (pgO X))=true:=by
 have h:=aKS (XY X) (YA (pgV X) _ (fun i hi=>YB X hi) 6)
 rw [aKY] at h
 exact h
end
noncomputable def laB:List S:=(df jY).body
noncomputable def laN:List Nm:=["script", "numbers", "parts", "leads", "due", "ups", "symbols", "page", "kinds", "rows", "nanny", "told", "named", "letters", "trees", "left"].map fun s=>nm (PySem.Str.ofString s)
noncomputable def lw (w:Nat→PV)(k:Nat):Sg:=dB laN ((List.range k).map w)
noncomputable def cG (f:List PV→Option PV)(l:List (Option EV)):Option EV:=(cV l).bind fun l=>(f l).map .v
noncomputable def nuT:List Int:=[396,433,1910,10840,4323,399]
noncomputable def nuS (s:List Int):List Int:=s.take 6++nuT.drop s.length
noncomputable def dU (X:Nat→Int):PV:=.list (cN X)
noncomputable abbrev rQ (tx:Nat→List Nat)(r:Nat→Nat):List PV:=aM fun i=>.inst (wI (tx i) (r i))
noncomputable def YC (a b:Option EV):Option EV:=qA [.Eq] a [b]
section
variable (cc m:Nm→List PV→Option PV)(w:Nat→PV)
noncomputable abbrev laG:Gl:=GD cc m (df jY)
noncomputable def laR (i k:Nat)(w:Nat→PV)(o:Option EV):Rs:=eC (laG cc m) (laN.getD k []) (aJ (stm laB i)) (lw w k) o
noncomputable def stL:List (Nat × Nat):=[(2,3),(3,4),(4,5),(6,9),(8,10),(9,11),(11,12),(12,13)]
theorem aLa (r:List PV):stL.map (fun q=>laR cc m q.1 q.2 w (some (.v (.list r))))=aH stL fun q=>some (.next,lw (upd w q.2 (.list r)) (q.2+1)):=by kernel_rfl
theorem YD (r:Int):[(13,14),(14,15)].map (fun q=>laR cc m q.1 q.2 w (some (.v (.int r))))=aH [(13,14),(14,15)] fun q=>some (.next,lw (upd w q.2 (.int r)) (q.2+1)):=by kernel_rfl
theorem aLb (f:Nat→Int):(List.range 64).map (fun k=>ex (laG cc m) (stm laB 0) (lw (upd w 0 (.list (((List.range k).map f).map .int))) 1))=aH (List.range 64) fun k=>some (.next,lw (upd (upd w 0 (.list (((List.range k).map f).map .int))) 1 (.list ((nuS ((List.range k).map f)).map .int))) 2):=by kernel_rfl
theorem aLc (X:Nat→Int):ex (laG cc m) (stm laB 1) (lw (upd w 1 (dU X)) 2)=some (.next,lw (upd (upd w 1 (dU X)) 2 (dU fun i=>(X i).fdiv 36)) 3):=by kernel_rfl
theorem aLd (X:Nat→Int):ex (laG cc m) (stm laB 2) (lw (upd w 1 (dU X)) 3)=laR cc m 2 3 (upd w 1 (dU X)) (cM .Add (some (.v (.list [.str []]))) ((compLoop (lcF (laG cc m) (kid 1 (aJ (stm laB 2))) (lw (upd w 1 (dU X)) 3)) [.int (X 1),.int (X 2),.int (X 3),.int (X 4),.int (X 5)]).bind fun l=>mkV (.list l))):=by kernel_rfl
theorem aLe (x:Int):lcF (laG cc m) (kid 1 (aJ (stm laB 2))) (lw w 3) (.int x)=cR (cc qY [.int x]):=by kernel_rfl
theorem aLf:ex (laG cc m) (stm laB 3) (lw w 4)=laR cc m 3 4 w (cG (cc oG) [some (.v (w 3))]):=by kernel_rfl
theorem aLg:ex (laG cc m) (stm laB 4) (lw w 5)=laR cc m 4 5 w (cG (cc mI) [some (.v (w 4))]):=by kernel_rfl
theorem aLh:ex (laG cc m) (stm laB 5) (lw w 6)=rI (laG cc m) (stm laB 5) (lw w 6) (cG (cc nW) [some (.v (w 2)),some (.v (w 3)),some (.v (w 5))]):=by kernel_rfl
theorem aLi (x y z:PV):rI (laG cc m) (stm laB 5) (lw w 6) (some (.v (.tuple [x,y,z])))=some (.next,lw (upd (upd (upd w 6 x) 7 y) 8 z) 9):=by kernel_rfl
theorem aLj:ex (laG cc m) (stm laB 6) (lw w 9)=laR cc m 6 9 w (cG (cc rA) [cG (cc qZ) [some (.v (w 6))]]):=by kernel_rfl
theorem aLk:ex (laG cc m) (stm laB 7) (lw w 10)=ifC (neR (some (.v (w 9))) (some (.v (w 7)))) (exs (laG cc m) (cD (stm laB 7)) (lw w 10)) (some (.next,lw w 10)):=by kernel_rfl
theorem aLl (R:List PV):ex (laG cc m) (stm laB 8) (lw (upd w 9 (.list R)) 10)=laR cc m 8 10 (upd w 9 (.list R)) ((compLoop (lcF (laG cc m) (aJ (stm laB 8)) (lw (upd w 9 (.list R)) 10)) R).bind fun l=>mkV (.list l)):=by kernel_rfl
theorem aLm (t o:PV):lcF (laG cc m) (aJ (stm laB 8)) (lw w 10) (.tuple [t,o])=cR (cc fR [t]):=by kernel_rfl
noncomputable abbrev w9 (tx:Nat→List Nat)(c:Nat→Nat):Sg:=lw (upd w 10 (.list (rQ tx c))) 11
theorem aLn (tx:Nat→List Nat)(c:Nat→Nat):ex (laG cc m) (stm laB 9) (w9 w tx c)=laR cc m 9 11 (upd w 10 (.list (rQ tx c))) ((compLoop (lcF (laG cc m) (aJ (stm laB 9)) (w9 w tx c)) (nPV [0,1,2,3,4,5])).bind fun l=>mkV (.list l)):=by kernel_rfl
theorem aLo (tx:Nat→List Nat)(c:Nat→Nat):(List.range 6).map (fun (i:Nat)=>lcF (laG cc m) (aJ (stm laB 9)) (w9 w tx c) (.int i))=aH (List.range 6) fun (i:Nat)=>mM ((compLoop (lcF (inC (laG cc m) (aJ (stm laB 9))) (kid 0 (aJ (stm laB 9))) (inS (aJ (stm laB 9)) (w9 w tx c) (nm "i") (.int i))) (nPV (List.range i))).bind fun l=>mkV (.list l)):=by kernel_rfl
theorem aLp (tx:Nat→List Nat)(c:Nat→Nat):eM.map (fun q=>lcF (inC (laG cc m) (aJ (stm laB 9))) (kid 0 (aJ (stm laB 9))) (inS (aJ (stm laB 9)) (w9 w tx c) (nm "i") (.int q.1)) (.int q.2))=aH eM fun q=>cR (m bC [.inst (wI (tx q.2) (c q.2)),.inst (wI (tx q.1) (c q.1))]):=by kernel_rfl
theorem aLq:ex (laG cc m) (stm laB 10) (lw w 12)=ifC (neR (some (.v (w 11))) (some (.v (w 4)))) (exs (laG cc m) (cD (stm laB 10)) (lw w 12)) (some (.next,lw w 12)):=by kernel_rfl
theorem aLr:ex (laG cc m) (stm laB 11) (lw w 12)=laR cc m 11 12 w (lcR (itR (cG (cc oI) [some (.v (w 9)),cG (cc mI) [some (.v (w 11))]])) (compLoop (lcF (laG cc m) (aJ (stm laB 11)) (lw w 12)))):=by kernel_rfl
noncomputable def e11:E:=kid 0 (kid 0 (aJ (stm laB 11)))
theorem aLs (q:List PV):lcF (laG cc m) (aJ (stm laB 11)) (lw w 12) (.list q)=mM (FJ ((compLoop (lcF (inC (laG cc m) (aJ (stm laB 11))) e11 (inS (aJ (stm laB 11)) (lw w 12) (nm "sets") (.list q))) q).bind fun l=>mkV (.list l))):=by kernel_rfl
theorem aLt (q:List PV)(d:PV):lcF (inC (laG cc m) (aJ (stm laB 11))) e11 (inS (aJ (stm laB 11)) (lw w 12) (nm "sets") (.list q)) d=cR (cc mJ [d]):=by kernel_rfl
theorem aLu (z:Nat→Int):ex (laG cc m) (stm laB 12) (lw (upd w 8 (dU z)) 13)=laR cc m 12 13 (upd w 8 (dU z)) ((compLoop (lcF (laG cc m) (aJ (stm laB 12)) (lw (upd w 8 (dU z)) 13)) (cN z)).bind fun l=>mkV (.list l)):=by kernel_rfl
theorem aLv (x:Int):lcF (laG cc m) (aJ (stm laB 12)) (lw w 13) (.int x)=rJ (decide (x≥0)) (.int x):=by kernel_rfl
theorem aLw:ex (laG cc m) (stm laB 13) (lw w 14)=laR cc m 13 14 w (cG (cc jM) [cG (cc kG) [some (.v (w 7)),some (.v (w 5)),some (.v (.int 0))]]):=by kernel_rfl
theorem aLx (lt:Nat→Nat):(List.range 6).map (fun L=>ex (laG cc m) (stm laB 14) (lw (upd w 13 (.list (jN L lt))) 15))=aH (List.range 6) fun L=>laR cc m 14 15 (upd w 13 (.list (jN L lt))) (cG (cc EZ) [cG (cc jM) [cG (cc kG) [some (.v (w 7)),some (.v (w 5)),some (.v (.int 1))]],some (.v (.int (2 ^ L:Nat)))]):=by kernel_rfl
theorem aLy:ex (laG cc m) (stm laB 15) (lw w 16)=jJ (YC (some (.v (w 12))) (qB [cG (cc mS) [some (.v (w 14)),some (.v (w 13))],cG (cc mS) [some (.v (w 15)),some (.v (w 13))]])) (lw w 16):=by kernel_rfl
end
open N
open List (Perm)
theorem FP:∀l:List Nat,aC l l=true
 |[]=>rfl
 |a::l=>by show (a==a && aC l l)=true; rw [FP l]; simp
theorem aLz:∀(n:Nat) (d:PV),okN n d=true→eqD d d=true:=by
 have lst:∀(n:Nat),(∀d,okN n d=true→eqD d d=true)→∀l:List PV,l.all (okN n)=true→eqDs l l=true:=by
  intro n ih l
  induction l with
  |nil=>intro _; rfl
  |cons x r ihr=>
   intro h
   rw [List.all_cons,Bool.and_eq_true] at h
   show (eqD x x && eqDs r r)=true
   rw [ih x h.1,ihr h.2]; rfl
 intro n
 induction n with
 |zero=>
  intro d h
  cases d with
  |none=>rfl
  |bool b=>cases b <;> rfl
  |int i=>show (i==i)=true; simp
  |str s=>exact FP s
  |_=>cases h
 |succ n ih=>
  intro d h
  cases d with
  |none=>rfl
  |bool b=>cases b <;> rfl
  |int i=>show (i==i)=true; simp
  |str s=>exact FP s
  |list l=>exact lst n ih l h
  |tuple l=>exact lst n ih l h
  |_=>cases h
theorem YE {d:PV}(h:okN 8 d=true):pT d d=some true:=by
 show (bif okN 8 d && okN 8 d then some (eqD d d) else none)=_
 rw [h,aLz 8 d h]; rfl
theorem YF {d:PV}(h:okN 8 d=true):neR (some (.v d)) (some (.v d))=some false:=by
 show trV ((((pT d d).map (!·)).bind fun t=>some t).map fun b=>EV.v (.bool b))=_
 rw [YE h]; rfl
theorem YG:∀(ws:List (List Nat)),(∀w∈ws,∀c∈w,c<1114112)→∀c∈eY ws,c<1114112
 |[],_,c,h=>by cases h
 |[w],hw,c,h=>hw w (.head _) c h
 |w::x::r,hw,c,h=>by
  have h:c∈w++44::32::eY (x::r):=h
  rcases List.mem_append.mp h with h |h
  ·exact hw w (.head _) c h
  ·rcases List.mem_cons.mp h with h |h
   ·rw [h]; decide
   ·rcases List.mem_cons.mp h with h |h
    ·rw [h]; decide
    ·exact YG (x::r) (fun z hz=>hw z (.tail _ hz)) c h
theorem eZ {w:Nat→PV}{k:Nat}{d:PV}(h:w k=d):upd w k d=w:=h▸VZ w k
theorem aL0 {s:List Nat}(h:okN 8 (.str s)=true):∀c∈s,c<1114112:=fun c hc=>of_decide_eq_true (List.all_eq_true.mp (show (s.all fun c=>decide (c<1114112))=true from h) c hc)
section
variable (X:Nat→Int)
noncomputable def bF:List Nat:=(dL.filter (pgF X)).map (pgN X)
theorem yJ:(bF X).length=iM (pgV X):=List.length_map _
theorem aL1:pgF X 0=false:=by
 have h:=(rP X (i:=1) (by decide) (by decide)).1
 have e:pgV X 1=0:=Nat.lt_one_iff.mp h
 unfold pgF lf is5
 rw [List.any_cons,e]
 rfl
theorem uE:(bF X).length≤5:=by
 unfold bF
 rw [List.length_map,dL,List.filter_cons,aL1]
 exact List.length_filter_le _ _
theorem yK:∀k∈bF X,k<16:=fun k hk=>by
 obtain ⟨i,_,rfl⟩:=List.mem_map.mp hk
 exact yI X i
theorem YH {i:Nat}(h:i∈dL):i<6:=oJ h
theorem aL2:(bF X).Nodup:=by
 unfold bF List.Nodup
 rw [List.pairwise_map]
 have h:(dL.filter (pgF X)).Pairwise (·≠·):=List.Pairwise.sublist List.filter_sublist (by decide)
 exact List.Pairwise.imp_of_mem (fun ha hb hab e=>hab (aKW X (YH (List.mem_filter.mp ha).1) (YH (List.mem_filter.mp hb).1) e)) h
theorem aL3 (ls:List Nat):phi ls 0=0:=rfl
theorem aL4 {j:Nat}(hj:j<6)(a:Nat→Bool):eW a (pgF X) (pgN X) j=gA (phi (bF X)) (yF a (pgV X) j):=by
 show eW a (pgF X) (pgN X) j=gA (phi (bF X)) (eW a (pgF X) (rM (pgV X)) j)
 unfold eW gA
 cases hl:pgF X j
 ·cases a j <;> rfl
 ·have hm:j∈dL.filter (pgF X):=List.mem_filter.mpr ⟨(by decide:∀i∈List.range 6,i∈dL) j (List.mem_range.mpr hj),hl⟩
  have hlt:=List.idxOf_lt_length_of_mem hm
  have hp:rM (pgV X) j<5:=Nat.lt_of_lt_of_le hlt (by have:=uE X; unfold bF at this; rw [List.length_map] at this; exact this)
  have e:(bF X).getD (rM (pgV X) j) 0=pgN X j:=by
   unfold bF rM
   rw [List.getD_eq_getElem?_getD,List.getElem?_map,show lf (pgV X)=pgF X from rfl,List.getElem?_eq_getElem hlt,List.getElem_idxOf hlt]
   rfl
  show ([2 ^ pgN X j],[0])=([phi (bF X) (2 ^ rM (pgV X) j)],[phi (bF X) 0])
  rw [aKE _ hp,e,aL3]
structure Net (d e:Nat):Prop where
 det:∃c,(c,d)∈dT∧eX c=jL (aR (pgO X)) (pgV X)
 lft:∃c e',(c,e')∈dT∧eX c=jL (rO (aR (pgO X))) (pgV X)∧szD c=iM (pgV X)∧e=FA (iM (pgV X)) e'
 p1:Perm (oL (aR (pgO X)) (pgV X)).1 (eD (iM (pgV X)) d)
 p2:Perm (oL (aR (pgO X)) (pgV X)).2 (eD (iM (pgV X)) e)
 ok:okL (aR (pgO X)) (pgV X) down (yF (aR (pgO X)) (pgV X))=true
 w1:okW (aR (pgO X)) (pgV X) dL oK=true
 w2:okW (rO (aR (pgO X))) (pgV X) dL oK=true
theorem aL5:∃d e,Net X d e:=by
 have h:=aKZ X
 unfold chk at h
 simp only [Bool.and_eq_true] at h
 obtain ⟨⟨h1,h2⟩,⟨h3,h4⟩,h5⟩:=h
 obtain ⟨c,d,m1,e1,k1⟩:=XR h1
 obtain ⟨c',e,m2,e2,k2⟩:=XR h2
 simp only [Bool.and_eq_true,decide_eq_true_eq] at k2
 exact ⟨d,_,⟨c,m1,e1⟩,⟨c',e,m2,e2,k2.1,rfl⟩,(yB _).symm.trans (.of_eq (FM k1)),(yB _).symm.trans (.of_eq (FM k2.2)),h3,h4,h5⟩
theorem YI:cK (pgO X) 0=aR (pgO X):=funext fun i=>by unfold cK; rw [Int.add_zero]; rfl
theorem YJ:cK (pgO X) 1=rO (aR (pgO X)):=funext fun i=>by
 have h:=WJ (pgO X) i
 have a:=eS (pgO X i+1) (k:=2) (by decide)
 unfold cK rO
 rw [Int.fmod_eq_emod_of_nonneg _ (by decide)] at h a ⊢
 cases hb:aR (pgO X) i
 ·rw [hb] at h
  have h:1-pgO X i%2=1:=h
  exact beq_iff_eq.mpr (by omega)
 ·rw [hb] at h
  have h:1-pgO X i%2=0:=h
  exact beq_eq_false_iff_ne.mpr (by omega)
end
theorem aL6 {ls:List Nat}(h:∀k∈ls,k<16)(x:Nat):∀c∈fO ls x,c<1114112:=by
 unfold fO wdL
 cases (cU ((eE x).map fun b=>ls.getD b 0)).isEmpty
 ·refine YG _ fun w hw=>?_
  obtain ⟨k,hk,rfl⟩:=List.mem_map.mp hw
  obtain ⟨b,_,rfl⟩:=List.mem_map.mp (FD hk)
  exact aL0 (WT (XG h b)).2
 ·exact (by decide:∀c∈yA,c<1114112)
theorem YK {ls:List Nat}(h:∀k∈ls,k<16)(l:List Nat):okN 7 (.list (hJ (l.map (fO ls))))=true:=by
 show (hJ (l.map (fO ls))).all (okN 6)=true
 rw [List.all_eq_true]
 intro d hd
 obtain ⟨s,hs,rfl⟩:=List.mem_map.mp hd
 obtain ⟨w,hw,rfl⟩:=List.mem_map.mp ((yC _).mem_iff.mp hs)
 obtain ⟨x,_,rfl⟩:=List.mem_map.mp hw
 show ((fO ls x).all fun c=>decide (c<1114112))=true
 exact List.all_eq_true.mpr fun c hc=>decide_eq_true (aL6 h x c hc)
theorem aL7 (r:Nat→Nat):okN 8 (rK r)=true:=by
 have h:∀i,okN 7 (eN r i)=true:=fun i=>by
  show ((List.range i).map fun j=>tri (nlZ (r j) (r i))).all (okN 6)=true
  rw [List.all_map]
  refine List.all_eq_true.mpr fun j zz=>?_
  show ((nlZ (r j) (r i)).map fun t=>PV.tuple [.int t.1,.int t.2.1,.int t.2.2]).all (okN 5)=true
  rw [List.all_map]
  exact List.all_eq_true.mpr fun zz zz=>rfl
 show ([0,1,2,3,4,5].map (eN r)).all (okN 7)=true
 rw [List.all_map]
 exact List.all_eq_true.mpr fun i zz=>h i
theorem aL8 (X:Nat→Int):okN 8 (.list (eU (pgT X) (pgO X)))=true:=by
 show ([0,1,2,3,4,5].map fun i=>PV.tuple [.str (pgT X i),.int (pgO X i)]).all (okN 7)=true
 rw [List.all_map]
 refine List.all_eq_true.mpr fun i zz=>?_
 show ((pgT X i).all (fun c=>decide (c<1114112)) && (true && true))=true
 rw [Bool.and_true,Bool.and_true]
 refine List.all_eq_true.mpr fun c hc=>decide_eq_true ?_
 have hs:=fun hc'=>EO (iN X i) c hc'
 have hn:=yI X i
 unfold pgT at hc
 cases h:pgF X i
 ·rw [h] at hc
  rcases hs hc with h |h <;> (rw [h]; decide)
 ·rw [h] at hc
  rcases List.mem_append.mp hc with hc |hc
  ·rcases hs hc with h |h <;> (rw [h]; decide)
  ·rw [List.mem_singleton] at hc; rw [hc]; exact Nat.lt_of_lt_of_le (Nat.add_lt_add_left hn 97) (by decide)
open N
open List (Perm)
theorem oM (f:List PV→Option PV)(a:PV):cG f [some (.v a)]=(f [a]).map .v:=rfl
theorem FQ (f:List PV→Option PV)(a b:PV):cG f [some (.v a),some (.v b)]=(f [a,b]).map .v:=rfl
theorem FS (f:List PV→Option PV)(a b c:PV):cG f [some (.v a),some (.v b),some (.v c)]=(f [a,b,c]).map .v:=rfl
theorem aL9 {p q:PV}(hp:okN 7 p=true)(hq:okN 7 q=true):YC (some (.v (.list [p,q]))) (qB [some (.v p),some (.v q)])=some (.v (.bool true)):=by
 have ok:okN 8 (.list [p,q])=true:=by
  show (okN 7 p && (okN 7 q && true))=true
  rw [hp,hq]
  rfl
 show (((pT (.list [p,q]) (.list [p,q])).bind fun t=>some t).map fun b=>EV.v (.bool b))=_
 rw [YE ok]
 rfl
section
variable (n:Nat)(X:Nat→Int)(a:List PV)(d e:Nat)
noncomputable abbrev Cn:Nm→List PV→Option PV:=(O (n+2)).call
noncomputable abbrev Mn:Nm→List PV→Option PV:=(O (n+2)).meth
noncomputable def roV:PV:=.list (eU (pgT X) (pgO X))
noncomputable def syV:PV:=.list ((eT (pgR X) (pgP X) (pgK X) is7++[0]).map .int)
noncomputable def nmV (x:Nat):PV:=.list (hJ ((eD (iM (pgV X)) x).map (fO (bF X))))
noncomputable def vals:Nat→PV
 |0=>.list a
 |1=>dU X
 |2=>dU (pgP X)
 |3=>.list (aM fun i=>.str (ld (pgR X i)))
 |4=>rK (pgR X)
 |5=>.list (cN (pgU X))
 |6=>syV X
 |7=>roV X
 |8=>dU (pgK X)
 |9=>roV X
 |10=>.list (rQ (pgT X) (pgR X))
 |11=>rK (pgR X)
 |12=>.list [nmV X d,nmV X e]
 |13=>.list (nPV (bF X))
 |14=>.int d
 |15=>.int e
 |_=>.none
noncomputable abbrev lG:Gl:=laG (Cn n) (Mn n)
theorem set_at {q:Nat × Nat}(hq:q∈stL){r:List PV}(hr:vals X a d e q.2=.list r){o:Option EV}(ho:o=some (.v (.list r))):laR (Cn n) (Mn n) q.1 q.2 (vals X a d e) o=some (.next,lw (vals X a d e) (q.2+1)):=by
 rw [ho,bA (aLa (Cn n) (Mn n) (vals X a d e) r) hq,eZ hr]
theorem aLA (s:List Int)(hs:s.length≤63)(ha:a=s.map .int)(hX:(nuS s).map PV.int=cN X):ex (lG n) (stm laB 0) (lw (vals X a d e) 1)=some (.next,lw (vals X a d e) 2):=by
 have h:=cX (aLb (Cn n) (Mn n) (vals X a d e) fun i=>s.getD i 0) (Nat.lt_succ_of_le hs)
 have es:(List.range s.length).map (fun i=>s.getD i 0)=s:=by
  refine List.ext_getElem (by rw [List.length_map,List.length_range]) fun k h1 h2=>?_
  rw [List.getElem_map,List.getElem_range,List.getD_eq_getElem?_getD,List.getElem?_eq_getElem h2]
  rfl
 rw [es,eZ (show vals X a d e 0=.list (s.map .int) from congrArg PV.list ha),hX,eZ (show vals X a d e 1=.list (cN X) from rfl)] at h
 exact h
theorem aLB:ex (lG n) (stm laB 1) (lw (vals X a d e) 2)=some (.next,lw (vals X a d e) 3):=by
 have h:=aLc (Cn n) (Mn n) (vals X a d e) X
 rw [eZ (show vals X a d e 1=dU X from rfl),eZ (show vals X a d e 2=dU fun i=>(X i).fdiv 36 from rfl)] at h
 exact h
theorem aLC:ex (lG n) (stm laB 2) (lw (vals X a d e) 3)=some (.next,lw (vals X a d e) 4):=by
 have h:=aLd (Cn n) (Mn n) (vals X a d e) X
 rw [eZ (show vals X a d e 1=dU X from rfl)] at h
 have c:compLoop (lcF (lG n) (kid 1 (aJ (stm laB 2))) (lw (vals X a d e) 3)) [.int (X 1),.int (X 2),.int (X 3),.int (X 4),.int (X 5)]=some ([0,1,2,3,4].map fun i=>.str (ld (pgR X (i+1)))):=
  fZ (l:=[0,1,2,3,4]) (f:=fun i=>.int (X (i+1))) fun i zz=>(aLe _ _ _ _).trans (by
   show cR ((O (n+1+1)).call qY [.int (X (i+1))])=_
   rw [aGw]; rfl)
 rw [c] at h
 exact h.trans (set_at n X a d e (q:=(2,3)) (.head _) rfl rfl)
theorem aLD:ex (lG n) (stm laB 3) (lw (vals X a d e) 4)=some (.next,lw (vals X a d e) 5):=
 (aLf _ _ _).trans (set_at n X a d e (q:=(3,4)) (.tail _ (.head _)) rfl (by
  rw [oM]
  exact congrArg (Option.map EV.v) (aIX n (pgR X) (iN X))))
theorem aLE:ex (lG n) (stm laB 4) (lw (vals X a d e) 5)=some (.next,lw (vals X a d e) 6):=
 (aLg _ _ _).trans (set_at n X a d e (q:=(4,5)) (.tail _ (.tail _ (.head _))) rfl (by
  rw [oM]
  exact congrArg (Option.map EV.v) (WG (n+1) (pgR X))))
theorem aLF:ex (lG n) (stm laB 5) (lw (vals X a d e) 6)=some (.next,lw (vals X a d e) 9):=by
 have h:cG (Cn n nW) [some (.v (vals X a d e 2)),some (.v (vals X a d e 3)),some (.v (vals X a d e 5))]=some (.v (.tuple [syV X,roV X,dU (pgK X)])):=by
  rw [FS]
  refine (congrArg (Option.map EV.v) (aGI n (pgP X) (pgU X) (pgR X) (iN X))).trans ?_
  unfold tY roV
  rw [←XW]
  rfl
 rw [aLh,h,aLi,eZ (show vals X a d e 6=syV X from rfl),eZ (show vals X a d e 7=roV X from rfl),eZ (show vals X a d e 8=dU (pgK X) from rfl)]
theorem aLG:ex (lG n) (stm laB 6) (lw (vals X a d e) 9)=some (.next,lw (vals X a d e) 10):=by
 refine (aLj _ _ _).trans (set_at n X a d e (q:=(6,9)) (.tail _ (.tail _ (.tail _ (.head _)))) rfl ?_)
 have hk:∀i,pgK X i<0∨(0≤pgK X i∧pgK X i<16):=fun i=>UQ _ _ _
 have hok:=EP (pgR X) (pgP X) (pgK X) (iN X) hk is7
 have hlen:=xL (pgR X) (pgP X) (pgK X) (iN X) is7
 rw [show is7.length=6 from rfl] at hlen
 have e0:syV X=.list ((dD (pgR X) (pgP X) (pgK X)++[0]).map fun (x:Nat)=>PV.int x):=by
  unfold syV dD
  rw [List.map_append,List.map_append,List.map_map]
  congr 2
  apply List.map_congr_left
  intro x hx
  show PV.int x=PV.int ((x.toNat:Nat):Int)
  rw [Int.toNat_of_nonneg (Int.le_of_lt (hok x hx).2)]
 have o:(Cn n) qZ [syV X]=some (.bytes (bW 0 (dD (pgR X) (pgP X) (pgK X)++[0]))):=by
  rw [e0]
  refine aHd (n+1) _ (fun x hx=>?_) (by unfold dD; rw [List.length_append,List.length_map,List.length_singleton]; exact Nat.lt_of_le_of_lt hlen (by decide)) (by simp)
  rcases List.mem_append.mp hx with hx |hx
  ·unfold dD at hx
   obtain ⟨y,hy,rfl⟩:=List.mem_map.mp hx
   have h1:=hok y hy
   have lt:=of_decide_eq_true (List.all_eq_true.mp VW y h1.1)
   omega
  ·rw [List.mem_singleton.mp hx]; decide
 rw [show vals X a d e 6=syV X from rfl,oM,o,Option.map_some,oM]
 refine (congrArg (Option.map EV.v) (aHI n (pgR X) (pgP X) (pgK X) (iN X) hk)).trans ?_
 rw [XW]
 rfl
theorem aLH:ex (lG n) (stm laB 7) (lw (vals X a d e) 10)=some (.next,lw (vals X a d e) 10):=by
 rw [aLk,show vals X a d e 9=vals X a d e 7 from rfl,YF (show okN 8 (vals X a d e 7)=true from aL8 X)]
 rfl
theorem aLI:ex (lG n) (stm laB 8) (lw (vals X a d e) 10)=some (.next,lw (vals X a d e) 11):=by
 have h:=aLl (Cn n) (Mn n) (vals X a d e) (eU (pgT X) (pgO X))
 rw [eZ (show vals X a d e 9=.list (eU (pgT X) (pgO X)) from rfl)] at h
 refine h.trans (set_at n X a d e (q:=(8,10)) (.tail _ (.tail _ (.tail _ (.tail _ (.head _))))) (r:=rQ (pgT X) (pgR X)) rfl ?_)
 have c:compLoop (lcF (lG n) (aJ (stm laB 8)) (lw (vals X a d e) 10)) (eU (pgT X) (pgO X))=some (rQ (pgT X) (pgR X)):=
  fZ (l:=[0,1,2,3,4,5]) (f:=fun i=>.tuple [.str (pgT X i),.int (pgO X i)]) (k:=fun i=>.inst (wI (pgT X i) (pgR X i))) fun i zz=>(aLm _ _ _ _ _).trans (by
   have hw:(O (n+1+1)).call fR [.str (pgT X i)]=some (.inst (wI (pgT X i) (pgR X i))):=by
    unfold pgT
    cases h:pgF X i
    ·have:=VY (n+1) (iN X i) [] (.inl rfl)
     rw [List.append_nil] at this
     exact this
    ·exact VY (n+1) (iN X i) [97+pgN X i] (.inr ⟨_,yI X i,rfl⟩)
   exact congrArg cR hw)
 rw [c]
 rfl
theorem aLJ:ex (lG n) (stm laB 9) (lw (vals X a d e) 11)=some (.next,lw (vals X a d e) 12):=by
 have h:=aLn (Cn n) (Mn n) (vals X a d e) (pgT X) (pgR X)
 have hi:=aLo (Cn n) (Mn n) (vals X a d e) (pgT X) (pgR X)
 have hj:=aLp (Cn n) (Mn n) (vals X a d e) (pgT X) (pgR X)
 simp only [w9,eZ (show vals X a d e 10=.list (rQ (pgT X) (pgR X)) from rfl)] at h hi hj
 refine h.trans (set_at n X a d e (q:=(9,11)) (.tail _ (.tail _ (.tail _ (.tail _ (.tail _ (.head _)))))) (r:=aM (eN (pgR X))) rfl ?_)
 have c:compLoop (lcF (lG n) (aJ (stm laB 9)) (lw (vals X a d e) 11)) (nPV [0,1,2,3,4,5])=some (aM (eN (pgR X))):=
  fZ (l:=[0,1,2,3,4,5]) (f:=fun (i:Nat)=>.int i) (k:=eN (pgR X)) fun i hm=>(cX hi (oJ hm)).trans (by
   rw [show compLoop (lcF (inC (lG n) (aJ (stm laB 9))) (kid 0 (aJ (stm laB 9))) (inS (aJ (stm laB 9)) (lw (vals X a d e) 11) (nm "i") (.int i))) (nPV (List.range i))=some ((List.range i).map fun j=>tri (nlZ (pgR X j) (pgR X i))) from
    fZ fun j hjm=>(bA hj (xQ (List.mem_range.mp hjm) (oJ hm))).trans (by
     show cR ((O (n+2)).meth bC [.inst (wI (pgT X j) (pgR X j)),.inst (wI (pgT X i) (pgR X i))])=_
     rw [aI6 n _ _ (iN X j) (iN X i),ES]
     rfl),Option.bind_some,eV _ (by rw [List.length_map,List.length_range]; exact Nat.le_trans (Nat.le_of_lt (oJ hm)) (by decide))]
   rfl)
 rw [c]
 rfl
theorem aLK:ex (lG n) (stm laB 10) (lw (vals X a d e) 12)=some (.next,lw (vals X a d e) 12):=by
 rw [aLq,show vals X a d e 11=vals X a d e 4 from rfl,YF (show okN 8 (vals X a d e 4)=true from aL7 _)]
 rfl
theorem YL {F:List Nat}{x:Nat}(p:Perm F (eD (iM (pgV X)) x)):lcF (lG n) (aJ (stm laB 11)) (lw (vals X a d e) 12) (.list (nPV (F.map (phi (bF X)))))=some [nmV X x]:=by
 have lt:∀y∈F,y<2 ^ (bF X).length:=fun y hy=>by
  rw [yJ]
  exact XF (p.mem_iff.mp hy)
 have fl:F.length≤32:=p.length_eq▸XE _ x (yJ X▸uE X)
 have c:compLoop (lcF (inC (lG n) (aJ (stm laB 11))) e11 (inS (aJ (stm laB 11)) (lw (vals X a d e) 12) (nm "sets") (.list (nPV (F.map (phi (bF X))))))) (nPV (F.map (phi (bF X))))=some ((F.map (fO (bF X))).map .str):=by
  unfold nPV
  rw [List.map_map,List.map_map]
  exact fZ fun y hy=>(aLt _ _ _ _ _).trans (by
   show cR ((O (n+1+1)).call mJ [.int (phi (bF X) y:Nat)])=_
   rw [aKI (yK X) (aL2 X) (n+1) (lt y hy)]
   rfl)
 rw [aLs,c,Option.bind_some,eV _ (by rw [List.length_map,List.length_map]; exact Nat.le_trans fl (by decide)),XD _ (by rw [List.length_map]; exact Nat.lt_of_le_of_lt fl (by decide)),aKC (p.map (fO (bF X)))]
 rfl
variable (N:Net X d e)
include N
theorem aLL:ex (lG n) (stm laB 11) (lw (vals X a d e) 12)=some (.next,lw (vals X a d e) 13):=by
 refine (aLr _ _ _).trans (set_at n X a d e (q:=(11,12)) (.tail _ (.tail _ (.tail _ (.tail _ (.tail _ (.tail _ (.head _))))))) rfl ?_)
 have h1:cG (Cn n mI) [some (.v (vals X a d e 11))]=some (.v (.list (cN (pgU X)))):=by
  rw [oM]
  exact congrArg (Option.map EV.v) (WG (n+1) (pgR X))
 have h2:cG (Cn n oI) [some (.v (vals X a d e 9)),some (.v (.list (cN (pgU X))))]=some (.v (mO (gA (phi (bF X)) (oL (aR (pgO X)) (pgV X))))):=by
  rw [FQ]
  exact congrArg (Option.map EV.v) (aJ2 n (aKX X) (fun i h1 h6=>rP X h1 h6) (aKD _) (fun j hj=>aL4 X hj _) N.ok)
 rw [h1,h2]
 show lcR (some [.list (nPV ((oL (aR (pgO X)) (pgV X)).1.map (phi (bF X)))),.list (nPV ((oL (aR (pgO X)) (pgV X)).2.map (phi (bF X))))]) _=_
 rw [EI,nA,YL n X a d e N.p1]
 simp only [nA,BE,YL n X a d e N.p2]
 rfl
omit N in
theorem aLM:ex (lG n) (stm laB 12) (lw (vals X a d e) 13)=some (.next,lw (vals X a d e) 14):=by
 have h:=aLu (Cn n) (Mn n) (vals X a d e) (pgK X)
 rw [eZ (show vals X a d e 8=dU (pgK X) from rfl)] at h
 refine h.trans (set_at n X a d e (q:=(12,13)) (.tail _ (.tail _ (.tail _ (.tail _ (.tail _ (.tail _ (.tail _ (.head _)))))))) (r:=nPV (bF X)) rfl ?_)
 have c:compLoop (lcF (lG n) (aJ (stm laB 12)) (lw (vals X a d e) 13)) (cN (pgK X))=some (nPV (bF X)):=by
  refine (uB (l:=[0,1,2,3,4,5]) (f:=fun i=>.int (pgK X i)) (k:=fun i=>bif pgF X i then [.int (pgN X i)] else []) fun i zz=>(aLv _ _ _ _).trans ?_).trans ?_
  ·rw [uA,XU]
   cases pgF X i
   ·rfl
   ·show some (bif decide ((pgN X i:Int)≥0) then _ else _)=_
    rw [decide_eq_true (show (pgN X i:Int)≥0 from Int.natCast_nonneg _)]
    rfl
  ·rw [xR]
   unfold nPV bF
   rw [List.map_map]
   rfl
 rw [c,Option.bind_some,eV _ (by rw [jK]; exact Nat.le_trans (uE X) (by decide))]
theorem aLN:ex (lG n) (stm laB 13) (lw (vals X a d e) 14)=some (.next,lw (vals X a d e) 15):=by
 obtain ⟨c,m,hc⟩:=N.det
 have h1:cG (Cn n kG) [some (.v (vals X a d e 7)),some (.v (vals X a d e 5)),some (.v (.int 0))]=some (.v (gZ (eX c))):=by
  rw [FS,hc,←YI]
  exact congrArg (Option.map EV.v) (WO (n+1) (pgT X) (pgO X) (XZ X) 0 (fun j zz=>XV X j) (YI X▸N.w1))
 have h2:cG (Cn n jM) [some (.v (gZ (eX c)))]=some (.v (.int d)):=by
  rw [oM]
  exact congrArg (Option.map EV.v) (WQ (n+1) m)
 rw [aLw,h1,h2,bA (YD (Cn n) (Mn n) (vals X a d e) d) (.head _),eZ (show vals X a d e 14=.int d from rfl)]
theorem aLO:ex (lG n) (stm laB 14) (lw (vals X a d e) 15)=some (.next,lw (vals X a d e) 16):=by
 obtain ⟨c,e',m,hc,hs,he⟩:=N.lft
 have h:=cX (aLx (Cn n) (Mn n) (vals X a d e) fun b=>(bF X).getD b 0) (Nat.lt_succ_of_le (uE X))
 rw [show jN (bF X).length (fun b=>(bF X).getD b 0)=nPV (bF X) by unfold jN; rw [EY],eZ (show vals X a d e 13=.list (nPV (bF X)) from rfl)] at h
 have h1:cG (Cn n kG) [some (.v (vals X a d e 7)),some (.v (vals X a d e 5)),some (.v (.int 1))]=some (.v (gZ (eX c))):=by
  rw [FS,hc,←YJ]
  exact congrArg (Option.map EV.v) (WO (n+1) (pgT X) (pgO X) (XZ X) 1 (fun j zz=>XV X j) (YJ X▸N.w2))
 have h2:cG (Cn n jM) [some (.v (gZ (eX c)))]=some (.v (.int e')):=by
  rw [oM]
  exact congrArg (Option.map EV.v) (WQ (n+1) m)
 have h3:cG (Cn n EZ) [some (.v (.int e')),some (.v (.int (2 ^ (bF X).length:Nat)))]=some (.v (.int e)):=by
  rw [FQ,he,yJ,←hs]
  exact congrArg (Option.map EV.v) (bA (aJU (n+1)) m)
 rw [h1,h2,h3,bA (YD (Cn n) (Mn n) (vals X a d e) e) (.tail _ (.head _)),eZ (show vals X a d e 15=.int e from rfl)] at h
 exact h
omit N in
theorem aLP:ex (lG n) (stm laB 15) (lw (vals X a d e) 16)=some (.ret (.bool true),lw (vals X a d e) 16):=by
 have h:∀x:Nat,cG (Cn n mS) [some (.v (.int x)),some (.v (.list (nPV (bF X))))]=some (.v (nmV X x)):=fun x=>by
  rw [FQ]
  refine (congrArg (Option.map EV.v) (aKA n (bF X) (yK X) (uE X) x)).trans ?_
  rw [yJ]
  rfl
 refine (aLy (Cn n) (Mn n) (vals X a d e)).trans ?_
 rw [show vals X a d e 14=.int d from rfl,show vals X a d e 15=.int e from rfl,show vals X a d e 13=.list (nPV (bF X)) from rfl,h,h,show vals X a d e 12=.list [nmV X d,nmV X e] from rfl,aL9 (p:=nmV X d) (q:=nmV X e) (YK (yK X) _) (YK (yK X) _)]
 rfl
end
theorem rR {l:List Int}{k:Nat}(h:l.length=k+1):∃a r,l=a::r∧r.length=k:=by
 cases l with
 |nil=>cases h
 |cons a r=>exact ⟨a,r,rfl,Nat.succ.inj h⟩
theorem aLQ {l:List Int}(h:l.length=6):l.map PV.int=cN fun i=>l.getD i 0:=by
 obtain ⟨a,l1,rfl,h1⟩:=rR h
 obtain ⟨b,l2,rfl,h2⟩:=rR h1
 obtain ⟨c,l3,rfl,h3⟩:=rR h2
 obtain ⟨d,l4,rfl,h4⟩:=rR h3
 obtain ⟨e,l5,rfl,h5⟩:=rR h4
 obtain ⟨f,l6,rfl,h6⟩:=rR h5
 cases List.eq_nil_of_length_eq_zero h6
 rfl
theorem aLR (s:List Int):(nuS s).map PV.int=cN fun i=>(nuS s).getD i 0:=aLQ (by
 unfold nuS
 rw [List.length_append,List.length_take,List.length_drop]
 show min 6 s.length+(6-s.length)=6
 exact (Nat.add_comm _ _).trans (Nat.sub_add_min_cancel 6 _))
theorem aLS (n:Nat)(s:List Int)(hs:s.length≤63):(O (n+3)).call jY [.list (s.map .int)]=some (.bool true):=by
 refine gQ (D:=df jY) (by kernel_rfl) (by kernel_rfl) (by kernel_rfl) ?_
 have hX:=aLR s
 generalize (fun i=>(nuS s).getD i 0)=X at hX
 obtain ⟨d,e,N⟩:=aL5 X
 rw [show dB (df jY).params [.list (s.map .int)]=lw (vals X (s.map .int) d e) 1 from by kernel_rfl]
 generalize ha:s.map PV.int=a
 show dH (exs (lG n) (bM laB 0) _)=_
 rw [aL (b:=laB) 0 (by kernel_rfl) (aLA n X a d e s hs ha.symm hX),aL (b:=laB) 1 (by kernel_rfl) (aLB n X a d e),aL (b:=laB) 2 (by kernel_rfl) (aLC n X a d e),aL (b:=laB) 3 (by kernel_rfl) (aLD n X a d e),
  aL (b:=laB) 4 (by kernel_rfl) (aLE n X a d e),aL (b:=laB) 5 (by kernel_rfl) (aLF n X a d e),aL (b:=laB) 6 (by kernel_rfl) (aLG n X a d e),aL (b:=laB) 7 (by kernel_rfl) (aLH n X a d e),
  aL (b:=laB) 8 (by kernel_rfl) (aLI n X a d e),aL (b:=laB) 9 (by kernel_rfl) (aLJ n X a d e),aL (b:=laB) 10 (by kernel_rfl) (aLK n X a d e),aL (b:=laB) 11 (by kernel_rfl) (aLL n X a d e N),
  aL (b:=laB) 12 (by kernel_rfl) (aLM n X a d e),aL (b:=laB) 13 (by kernel_rfl) (aLN n X a d e N),aL (b:=laB) 14 (by kernel_rfl) (aLO n X a d e N),mK (b:=laB) 15 (by kernel_rfl) (aLP n X a d e)]
 rfl
end Mine.V
namespace Mine.V
open PySem PySem.W PyProof.Rows PySem.Calls
noncomputable abbrev hF (w:World):Heap:=Mine.G.hpF w.params
noncomputable def C2 (w:World):Cx:={cls:=83,hb:=hF w,gl:=3,bi:=0,gm:=(hF w).nsMap 3,bm:=(hF w).nsMap 0,me:=fun zz=>False}
section
variable (w:World)(me:Value→Prop)
theorem YM:(C2 w).gm (mkS fR)=some (.ref 83):=by kernel_rfl
theorem aLT:∀x d,T2.const x=some d→dQ ((C2 w).as me) x (Rep ((C2 w).as me) (BX ((C2 w).as me)) ((C2 w).as me).hb d):=fun x d h=>
 bor (c:=aC x UE) h (fun h1 h=>aQ h (.mk (.g (by rw [bH h1]; kernel_rfl)) (show dY 256 (.int 256 2479) from .mk _))) fun h=>
 bor (c:=aC x UD) h (fun h1 h=>aQ h (.mk (.g (by rw [bH h1]; kernel_rfl)) (show dY 55 (.int 55 2477) from .mk _))) fun h=>
 oif h fun h1 h=>aQ h (.mk (.g (by rw [bH h1]; kernel_rfl)) (show dY 0 (.int 0 2379) from .mk _))
theorem yL {x:Nm}:∀{l:List Nm},gH x l=true→x∈l
 |y::r,h=>xA (a:=aC y x) h (fun h=>bH h▸.head _) fun h=>.tail _ (yL h)
theorem aLU:∀f,vS f=true→GV ((C2 w).as me) f (fnV f):=by
 intro f h
 have h:f∈[vA,sV,vC,sX,vE,sW,vF,vH,vI,AR]:=yL h
 simp only [List.mem_cons,List.not_mem_nil,or_false] at h
 rcases h with rfl |rfl |rfl |rfl |rfl |rfl |rfl |rfl |rfl |rfl <;> exact .b (by kernel_rfl) (by kernel_rfl)
theorem aLV:∀p∈[(fG,Value.type "range"),(fH,.type "list"),(iV,.type "zip"),(pR,.builtin "iter"),(pS,.builtin "next")],GV ((C2 w).as me) p.1 p.2:=by
 intro p h
 simp only [List.mem_cons,List.not_mem_nil,or_false] at h
 rcases h with rfl |rfl |rfl |rfl |rfl <;> exact .b (by kernel_rfl) (by kernel_rfl)
end
noncomputable def atO (h:Heap)(a:Addr):Obj:=(h.get? a).getD ⟨.none,none,.plain,#[]⟩
noncomputable def fnO (o:Obj):FuncData:=match o.data with
 |.func fd=>fd
 |_=>{name:=mkS [],qualname:=mkS [],params:=default,body:=.stmts [],scope:=default,globals:=0,closure:=[],defaults:=.none,kwdefaults:=.none,doc:=.none,pyModule:=.none,annotations:=none,code:=.none,closureTuple:=.none,builtins:=0}
noncomputable def rfO:Value→Addr
 |.ref a=>a
 |_=>0
noncomputable def FT (o:Obj):Array Value:=match o.data with
 |.fields vs=>vs
 |_=>#[]
noncomputable def tkO:Option Value→Tok
 |some (.str _ t)=>t
 |_=>0
noncomputable abbrev fnA (w:World)(a:Addr):FuncData:=fnO (atO (hF w) a)
noncomputable abbrev cdA (w:World)(a:Addr):Obj:=atO (hF w) (rfO (fnA w a).code)
structure FnI where
 g:Option Obj
 cls:Value
 data:Data
 body:FuncBody
 sc:Scope
 gl:Addr
 bi:Addr
 clo:List (PySem.Str × Addr)
 code:Value
 cg:Option Obj
 cd:Data
 q:Option Value
theorem bL {w:World}{me:Value→Prop}{a:Addr}{D:Df}(e:(⟨(hF w).get? a,(atO (hF w) a).cls,(atO (hF w) a).data,(fnA w a).body,(fnA w a).scope,(fnA w a).globals,(fnA w a).builtins,(fnA w a).closure,(fnA w a).code,(hF w).get? (rfO (fnA w a).code),(cdA w a).data,(FT (cdA w a))[1]?⟩:FnI)
   = ⟨some (atO (hF w) a),.type "function",.func (fnA w a),.stmts (sbs D.body),D.sc,3,0,[],.ref (rfO (fnA w a).code),some (cdA w a),.fields (FT (cdA w a)),some (.str (fnA w a).qualname (tkO (FT (cdA w a))[1]?))⟩)
  (hb:∀vals:List Value,vals.length=D.params.length→bindArgs (fnA w a) ⟨vals,[]⟩=pure ((D.params.map mkS).zip vals)) (hs:DM D=true):aX ((C2 w).as me) D a:=
 .mk (congrArg FnI.g e) (congrArg FnI.cls e) (congrArg FnI.data e) (congrArg FnI.body e) (congrArg FnI.sc e) (congrArg FnI.gl e) (congrArg FnI.bi e) (congrArg FnI.clo e) ⟨_,_,_,_,congrArg FnI.code e,congrArg FnI.cg e,congrArg FnI.cd e,congrArg FnI.q e⟩ hb hs
noncomputable def dfI (i:Nat):Df:=BR (Mine.G.fArgs (Mine.G.stN i)) (Mine.G.fBody (Mine.G.stN i)) (Mine.G.fScope (Mine.G.stN i))
noncomputable def dfM (j:Nat):Df:=BR (Mine.G.fArgs (Mine.G.stC 2 j)) (Mine.G.fBody (Mine.G.stC 2 j)) (Mine.G.fScope (Mine.G.stC 2 j))
theorem dF {l:List Value}{n:Nat}{fd:FuncData}{ps:List PySem.Str}(h:l.length=n)(e:n=1)(k:∀a,bindArgs fd ⟨[a],[]⟩=pure (ps.zip [a])):bindArgs fd ⟨l,[]⟩=pure (ps.zip l):=by
 subst e
 cases l with
 |nil=>cases h
 |cons a l=>cases l with
  |nil=>exact k a
  |cons _ _=>cases h
theorem iO {l:List Value}{n:Nat}{fd:FuncData}{ps:List PySem.Str}(h:l.length=n)(e:n=2)(k:∀a b,bindArgs fd ⟨[a,b],[]⟩=pure (ps.zip [a,b])):bindArgs fd ⟨l,[]⟩=pure (ps.zip l):=by
 subst e
 cases l with
 |nil=>cases h
 |cons a l=>cases l with
  |nil=>cases h
  |cons b l=>cases l with
   |nil=>exact k a b
   |cons _ _=>cases h
theorem YN {l:List Value}{n:Nat}{fd:FuncData}{ps:List PySem.Str}(h:l.length=n)(e:n=3)(k:∀a b c,bindArgs fd ⟨[a,b,c],[]⟩=pure (ps.zip [a,b,c])):bindArgs fd ⟨l,[]⟩=pure (ps.zip l):=by
 subst e
 cases l with
 |nil=>cases h
 |cons a l=>cases l with
  |nil=>cases h
  |cons b l=>cases l with
   |nil=>cases h
   |cons c l=>cases l with
    |nil=>exact k a b c
    |cons _ _=>cases h
section
variable (w:World)(me:Value→Prop)
theorem aLW:aX ((C2 w).as me) (dfI 0) 21:=bL (by kernel_rfl) (fun l h=>dF h (by kernel_rfl) fun zz=>by kernel_rfl) (by kernel_rfl)
theorem YO:aX ((C2 w).as me) (dfM 1) 38:=bL (by kernel_rfl) (fun l h=>iO h (by kernel_rfl) fun zz zz=>by kernel_rfl) (by kernel_rfl)
theorem aLX:aX ((C2 w).as me) (dfM 2) 45:=bL (by kernel_rfl) (fun l h=>dF h (by kernel_rfl) fun zz=>by kernel_rfl) (by kernel_rfl)
theorem aLY:aX ((C2 w).as me) (dfM 3) 52:=bL (by kernel_rfl) (fun l h=>iO h (by kernel_rfl) fun zz zz=>by kernel_rfl) (by kernel_rfl)
theorem aLZ:aX ((C2 w).as me) (dfM 4) 59:=bL (by kernel_rfl) (fun l h=>iO h (by kernel_rfl) fun zz zz=>by kernel_rfl) (by kernel_rfl)
theorem aMa:aX ((C2 w).as me) (dfM 5) 66:=bL (by kernel_rfl) (fun l h=>iO h (by kernel_rfl) fun zz zz=>by kernel_rfl) (by kernel_rfl)
theorem aMb:aX ((C2 w).as me) (dfM 6) 73:=bL (by kernel_rfl) (fun l h=>iO h (by kernel_rfl) fun zz zz=>by kernel_rfl) (by kernel_rfl)
theorem aMc:aX ((C2 w).as me) (dfM 7) 80:=bL (by kernel_rfl) (fun l h=>iO h (by kernel_rfl) fun zz zz=>by kernel_rfl) (by kernel_rfl)
theorem aMd:aX ((C2 w).as me) (dfI 5) 95:=bL (by kernel_rfl) (fun l h=>dF h (by kernel_rfl) fun zz=>by kernel_rfl) (by kernel_rfl)
theorem YQ:aX ((C2 w).as me) (dfI 6) 102:=bL (by kernel_rfl) (fun l h=>dF h (by kernel_rfl) fun zz=>by kernel_rfl) (by kernel_rfl)
theorem aMe:aX ((C2 w).as me) (dfI 9) 120:=bL (by kernel_rfl) (fun l h=>dF h (by kernel_rfl) fun zz=>by kernel_rfl) (by kernel_rfl)
theorem aMf:aX ((C2 w).as me) (dfI 11) 166:=bL (by kernel_rfl) (fun l h=>dF h (by kernel_rfl) fun zz=>by kernel_rfl) (by kernel_rfl)
theorem aMg:aX ((C2 w).as me) (dfI 65) 176:=bL (by kernel_rfl) (fun l h=>dF h (by kernel_rfl) fun zz=>by kernel_rfl) (by kernel_rfl)
theorem aMh:aX ((C2 w).as me) (dfI 66) 183:=bL (by kernel_rfl) (fun l h=>dF h (by kernel_rfl) fun zz=>by kernel_rfl) (by kernel_rfl)
theorem aMi:aX ((C2 w).as me) (dfI 67) 190:=bL (by kernel_rfl) (fun l h=>dF h (by kernel_rfl) fun zz=>by kernel_rfl) (by kernel_rfl)
theorem aMj:aX ((C2 w).as me) (dfI 69) 197:=bL (by kernel_rfl) (fun l h=>dF h (by kernel_rfl) fun zz=>by kernel_rfl) (by kernel_rfl)
theorem aMk:aX ((C2 w).as me) (dfI 70) 202:=bL (by kernel_rfl) (fun l h=>dF h (by kernel_rfl) fun zz=>by kernel_rfl) (by kernel_rfl)
theorem aMl:aX ((C2 w).as me) (dfI 71) 207:=bL (by kernel_rfl) (fun l h=>dF h (by kernel_rfl) fun zz=>by kernel_rfl) (by kernel_rfl)
theorem aMm:aX ((C2 w).as me) (dfI 72) 212:=bL (by kernel_rfl) (fun l h=>dF h (by kernel_rfl) fun zz=>by kernel_rfl) (by kernel_rfl)
theorem aMn:aX ((C2 w).as me) (dfI 73) 219:=bL (by kernel_rfl) (fun l h=>dF h (by kernel_rfl) fun zz=>by kernel_rfl) (by kernel_rfl)
theorem aMo:aX ((C2 w).as me) (dfI 74) 226:=bL (by kernel_rfl) (fun l h=>dF h (by kernel_rfl) fun zz=>by kernel_rfl) (by kernel_rfl)
theorem aMp:aX ((C2 w).as me) (dfI 75) 231:=bL (by kernel_rfl) (fun l h=>iO h (by kernel_rfl) fun zz zz=>by kernel_rfl) (by kernel_rfl)
theorem aMq:aX ((C2 w).as me) (dfI 76) 236:=bL (by kernel_rfl) (fun l h=>YN h (by kernel_rfl) fun zz zz zz=>by kernel_rfl) (by kernel_rfl)
theorem aMr:aX ((C2 w).as me) (dfI 77) 241:=bL (by kernel_rfl) (fun l h=>dF h (by kernel_rfl) fun zz=>by kernel_rfl) (by kernel_rfl)
theorem aMs:aX ((C2 w).as me) (dfI 78) 248:=bL (by kernel_rfl) (fun l h=>dF h (by kernel_rfl) fun zz=>by kernel_rfl) (by kernel_rfl)
theorem aMt:aX ((C2 w).as me) (dfI 79) 253:=bL (by kernel_rfl) (fun l h=>iO h (by kernel_rfl) fun zz zz=>by kernel_rfl) (by kernel_rfl)
theorem aMu:aX ((C2 w).as me) (dfI 80) 260:=bL (by kernel_rfl) (fun l h=>iO h (by kernel_rfl) fun zz zz=>by kernel_rfl) (by kernel_rfl)
theorem aMv:aX ((C2 w).as me) (dfI 81) 265:=bL (by kernel_rfl) (fun l h=>YN h (by kernel_rfl) fun zz zz zz=>by kernel_rfl) (by kernel_rfl)
theorem aMw:aX ((C2 w).as me) (dfI 82) 270:=bL (by kernel_rfl) (fun l h=>dF h (by kernel_rfl) fun zz=>by kernel_rfl) (by kernel_rfl)
theorem aMx:aX ((C2 w).as me) (dfI 83) 275:=bL (by kernel_rfl) (fun l h=>dF h (by kernel_rfl) fun zz=>by kernel_rfl) (by kernel_rfl)
theorem aMy:aX ((C2 w).as me) (dfI 84) 280:=bL (by kernel_rfl) (fun l h=>iO h (by kernel_rfl) fun zz zz=>by kernel_rfl) (by kernel_rfl)
theorem aMz:aX ((C2 w).as me) (dfI 85) 285:=bL (by kernel_rfl) (fun l h=>iO h (by kernel_rfl) fun zz zz=>by kernel_rfl) (by kernel_rfl)
theorem aM0:aX ((C2 w).as me) (dfI 86) 290:=bL (by kernel_rfl) (fun l h=>dF h (by kernel_rfl) fun zz=>by kernel_rfl) (by kernel_rfl)
end
theorem FU {α:Type}{x:Nm}{a:α}:∀{l:List (Nm × α)},aD x l=some a→(x,a)∈l
 |(y,b)::r,h=>bor (c:=aC y x) h (fun e h=>by cases bH e; cases h; exact .head _) fun h=>.tail _ (FU h)
noncomputable def dfL:List (Nm × Df):=[(nm "_wall",dfI 0),(nm "pretty_flags",dfI 5),(nm "_parse_varint",dfI 6),(nm "in_table_b1",dfI 9),(nm "map_table_b3",dfI 11),(nm "ISTERMINAL",dfI 65),(nm "ISNONTERMINAL",dfI 66),(nm "ISEOF",dfI 67),(nm "_law_lead",dfI 69),(nm "_law_columns",dfI 70),(nm "_law_witnesses",dfI 71),(nm "_law_ups",dfI 72),(nm "_law_unseen",dfI 73),(nm "_law_operator",dfI 74),(nm "_law_spelled",dfI 75),(nm "_law_page",dfI 76),(nm "_law_octets",dfI 77),(nm "_law_read",dfI 78),(nm "_law_joined",dfI 79),(nm "_law_fold",dfI 80),(nm "_law_wires",dfI 81),(nm "_law_determinant",dfI 82),(nm "_law_words",dfI 83),(nm "_law_named",dfI 84),(nm "_law_left",dfI 85),(nm "law",dfI 86)]
theorem aM1:T2.dfs=dfL:=by kernel_rfl
noncomputable def dmL:List (Nm × Df):=[(nm "__init__",dfM 1),(nm "longest_run_of_spaces",dfM 2),(nm "indent_level",dfM 3),(nm "equal",dfM 4),(nm "not_equal_witness",dfM 5),(nm "less",dfM 6),(nm "not_less_witness",dfM 7)]
theorem YR:T2.meths=dmL:=by kernel_rfl
section
variable (w:World)(me:Value→Prop)
theorem aM2:∀f D,aD f T2.dfs=some D→aC f T2.cls=false→∃fA:Addr,(C2 w).gm (mkS f)=some (.ref fA)∧aX ((C2 w).as me) D fA:=by
 intro f D h _
 rw [aM1] at h
 have all:∀p∈dfL,∃fA:Addr,(C2 w).gm (mkS p.1)=some (.ref fA)∧aX ((C2 w).as me) p.2 fA:=by
  unfold dfL
  exact List.forall_mem_cons.mpr ⟨⟨21,by kernel_rfl,aLW w me⟩,List.forall_mem_cons.mpr ⟨⟨95,by kernel_rfl,aMd w me⟩,List.forall_mem_cons.mpr ⟨⟨102,by kernel_rfl,YQ w me⟩,List.forall_mem_cons.mpr ⟨⟨120,by kernel_rfl,aMe w me⟩,List.forall_mem_cons.mpr ⟨⟨166,by kernel_rfl,aMf w me⟩,List.forall_mem_cons.mpr ⟨⟨176,by kernel_rfl,aMg w me⟩,List.forall_mem_cons.mpr ⟨⟨183,by kernel_rfl,aMh w me⟩,List.forall_mem_cons.mpr ⟨⟨190,by kernel_rfl,aMi w me⟩,List.forall_mem_cons.mpr ⟨⟨197,by kernel_rfl,aMj w me⟩,List.forall_mem_cons.mpr ⟨⟨202,by kernel_rfl,aMk w me⟩,List.forall_mem_cons.mpr ⟨⟨207,by kernel_rfl,aMl w me⟩,List.forall_mem_cons.mpr ⟨⟨212,by kernel_rfl,aMm w me⟩,List.forall_mem_cons.mpr ⟨⟨219,by kernel_rfl,aMn w me⟩,List.forall_mem_cons.mpr ⟨⟨226,by kernel_rfl,aMo w me⟩,List.forall_mem_cons.mpr ⟨⟨231,by kernel_rfl,aMp w me⟩,List.forall_mem_cons.mpr ⟨⟨236,by kernel_rfl,aMq w me⟩,List.forall_mem_cons.mpr ⟨⟨241,by kernel_rfl,aMr w me⟩,List.forall_mem_cons.mpr ⟨⟨248,by kernel_rfl,aMs w me⟩,List.forall_mem_cons.mpr ⟨⟨253,by kernel_rfl,aMt w me⟩,List.forall_mem_cons.mpr ⟨⟨260,by kernel_rfl,aMu w me⟩,List.forall_mem_cons.mpr ⟨⟨265,by kernel_rfl,aMv w me⟩,List.forall_mem_cons.mpr ⟨⟨270,by kernel_rfl,aMw w me⟩,List.forall_mem_cons.mpr ⟨⟨275,by kernel_rfl,aMx w me⟩,List.forall_mem_cons.mpr ⟨⟨280,by kernel_rfl,aMy w me⟩,List.forall_mem_cons.mpr ⟨⟨285,by kernel_rfl,aMz w me⟩,List.forall_mem_cons.mpr ⟨⟨290,by kernel_rfl,aM0 w me⟩,List.forall_mem_nil _⟩⟩⟩⟩⟩⟩⟩⟩⟩⟩⟩⟩⟩⟩⟩⟩⟩⟩⟩⟩⟩⟩⟩⟩⟩⟩
 exact all _ (FU h)
noncomputable abbrev nsW (w:World):PySem.Str→Option Value:=(hF w).nsMap 82
theorem uF:(C2 w).hb.get? 83=some (excClassObj (mkS fR) (mkS fR) 83 82 [.type "object"] [.type "object"] true [] [] false none none none none (some (.str (mkS fR) 196)) (some (.str (mkS fR) 204)) (some (.bool true)) "object.__new__"):=by kernel_rfl
theorem yM:(C2 w).hb.Ns 82 (nsW w):=Heap.Ns.of_isNs (by kernel_rfl)
theorem aM3:∀D,aD qC T2.meths=some D→(C2 w).gm (mkS T2.cls)=some (.ref (C2 w).cls)∧mG ((C2 w).as me) D:=by
 intro D h
 have e:aD qC T2.meths=some (dfM 1):=by rw [YR]; kernel_rfl
 rw [e] at h
 cases h
 exact ⟨YM w,.mk (uF w) (yM w) (by kernel_rfl) (YO w me)⟩
theorem oN {m:Nm}{f:Addr}{y:Option Value}{prog:Program}(hm:nsW w (mkS m)=some (.ref f))(hf:(atO (hF w) f).cls=.type "function")(hg:(hF w).get? f=some (atO (hF w) f))(hB:typeLookup (.type "object") (mkS m)=pure y):
  ∀A (s:Shared) (x:Addr) mA pl Q E,eK A→aG NoX (hF w) s.heap→s.heap.Inst x 83 mA→mA (mkS m)=none→Q (.ref f,[.ref x]) s→wpAny (model prog w) A (getMethod (.ref x) (mkS m) pl) Q E s:=fun A s x mA pl Q E zz k I hn h=>by
 obtain ⟨h0,g0,d0,t0,os0⟩:=s
 have up:∀b o,(hF w).get? b=some o→h0.get? b=some o:=fun b o e=>k b o e id
 exact method_of (up _ _ (uF w)) (Ns.keepX (yM w) k id) (by kernel_rfl) (by kernel_rfl) hm (up _ _ hg) hf hB I hn h
theorem aM4 (prog:Program):∀m D,aD m T2.meths=some D→∃f:Addr,aX ((C2 w).as me) D f∧∀A s x mA pl Q E,eK A→aG NoX (C2 w).hb s.heap→s.heap.Inst x (C2 w).cls mA→mA (mkS m)=none→Q (.ref f,[.ref x]) s→wpAny (model prog w) A (getMethod (.ref x) (mkS m) pl) Q E s:=by
 intro m D h
 rw [YR] at h
 have all:∀p∈dmL,∃f:Addr,aX ((C2 w).as me) p.2 f∧∀A (s:Shared) (x:Addr) mA pl Q E,eK A→aG NoX (C2 w).hb s.heap→s.heap.Inst x (C2 w).cls mA→mA (mkS p.1)=none→Q (.ref f,[.ref x]) s→wpAny (model prog w) A (getMethod (.ref x) (mkS p.1) pl) Q E s:=by
  unfold dmL
  exact List.forall_mem_cons.mpr ⟨⟨38,YO w me,oN w (y:=some (.builtin "object.__init__")) (by kernel_rfl) (by kernel_rfl) (by kernel_rfl) (by rw [typeLookup_type,builtinLookup_eq_fast]; kernel_rfl)⟩,List.forall_mem_cons.mpr ⟨⟨45,aLX w me,oN w (y:=none) (by kernel_rfl) (by kernel_rfl) (by kernel_rfl) (by rw [typeLookup_type,builtinLookup_eq_fast]; kernel_rfl)⟩,List.forall_mem_cons.mpr ⟨⟨52,aLY w me,oN w (y:=none) (by kernel_rfl) (by kernel_rfl) (by kernel_rfl) (by rw [typeLookup_type,builtinLookup_eq_fast]; kernel_rfl)⟩,List.forall_mem_cons.mpr ⟨⟨59,aLZ w me,oN w (y:=none) (by kernel_rfl) (by kernel_rfl) (by kernel_rfl) (by rw [typeLookup_type,builtinLookup_eq_fast]; kernel_rfl)⟩,List.forall_mem_cons.mpr ⟨⟨66,aMa w me,oN w (y:=none) (by kernel_rfl) (by kernel_rfl) (by kernel_rfl) (by rw [typeLookup_type,builtinLookup_eq_fast]; kernel_rfl)⟩,List.forall_mem_cons.mpr ⟨⟨73,aMb w me,oN w (y:=none) (by kernel_rfl) (by kernel_rfl) (by kernel_rfl) (by rw [typeLookup_type,builtinLookup_eq_fast]; kernel_rfl)⟩,List.forall_mem_cons.mpr ⟨⟨80,aMc w me,oN w (y:=none) (by kernel_rfl) (by kernel_rfl) (by kernel_rfl) (by rw [typeLookup_type,builtinLookup_eq_fast]; kernel_rfl)⟩,List.forall_mem_nil _⟩⟩⟩⟩⟩⟩⟩
 exact all _ (FU h)
end
noncomputable def YS:List Nm:=[nm "raw",nm "n",nm "nt",nm "norm",nm "is_simple"]
section
variable (w:World)(me:Value→Prop)
theorem YT:∀a∈YS,nsW w (mkS a)=none∧typeLookup (.type "object") (mkS a)=pure none:=by
 unfold YS
 exact List.forall_mem_cons.mpr ⟨⟨by kernel_rfl,by rw [typeLookup_type,builtinLookup_eq_fast]; kernel_rfl⟩,List.forall_mem_cons.mpr ⟨⟨by kernel_rfl,by rw [typeLookup_type,builtinLookup_eq_fast]; kernel_rfl⟩,List.forall_mem_cons.mpr ⟨⟨by kernel_rfl,by rw [typeLookup_type,builtinLookup_eq_fast]; kernel_rfl⟩,List.forall_mem_cons.mpr ⟨⟨by kernel_rfl,by rw [typeLookup_type,builtinLookup_eq_fast]; kernel_rfl⟩,List.forall_mem_cons.mpr ⟨⟨by kernel_rfl,by rw [typeLookup_type,builtinLookup_eq_fast]; kernel_rfl⟩,List.forall_mem_nil _⟩⟩⟩⟩⟩
noncomputable abbrev TL (w:World)(me:Value→Prop):Th:=⟨eL,w,(C2 w).as me,eK⟩
theorem aM5:∀a,T2.fld a=true→∀A X s x mA v,At (TL w me) A X s→s.heap.Inst x 83 mA→mA (mkS a)=some v→handedOut v=pure v→Tr (model eL w) A (getAttr (.ref x) (mkS a) true) s (VR s v):=by
 intro a ha A X s x mA v c I hv hh Q E q
 obtain ⟨f1,f2⟩:=YT w a (yL ha)
 have k:aG NoX (hF w) s.heap:=c.base
 obtain ⟨h0,g0,d0,t0,os0⟩:=s
 have up:∀b o,(hF w).get? b=some o→h0.get? b=some o:=fun b o e=>k b o e id
 exact load_attr (up _ _ (uF w)) (Ns.keepX (yM w) k id) (by kernel_rfl) f1 f2 I hv hh (q _ _ ⟨Ext.tok _ _ _,rfl⟩)
theorem aM6:∀a,T2.fld a=true→∀A X s x mA ns v,At (TL w me) A X s→(hF w).get? x=none→s.heap.Inst x 83 mA→Within mA ns→ns.length≤1000→Tr (model eL w) A (setAttr (.ref x) (mkS a) v) s fun zz s'=>RD ((C2 w).as me) x a v mA s s':=by
 intro a ha A X s x mA ns v c hx I hw hl Q E q
 obtain ⟨f1,f2⟩:=YT w a (yL ha)
 have k:aG NoX (hF w) s.heap:=c.base
 obtain ⟨h0,g0,d0,t0,os0⟩:=s
 have up:∀b o,(hF w).get? b=some o→h0.get? b=some o:=fun b o e=>k b o e id
 exact store_attr F.store_object (up _ _ (uF w)) (Ns.keepX (yM w) k id) (by kernel_rfl) f1 f2 (fun e=>by subst e; cases (show (hF w).get? 83=_ from uF w).symm.trans hx) I (fun h' tk' I' k1 k2=>q () ⟨h',g0,d0,tk',os0⟩ ⟨rfl,rfl,I',k1,k2⟩) hw (Nat.le_trans hl (by decide))
noncomputable def KC (w:World):Frag:=[(2,atO (hF w) 2),(82,atO (hF w) 82),(83,atO (hF w) 83)]
theorem aM7:(KC w).In (hF w):=Frag.in_of (as:=[2,82,83]) (by kernel_rfl) (by kernel_rfl)
theorem aM8:∀c a d,T2.cattr c a=some d→dQ ((C2 w).as me) c fun vc=>∀A X s,At (TL w me) A X s→Tr (model eL w) A (getAttr vc (mkS a) true) s (ER ((C2 w).as me) X s (.v d)):=fun c a d h=>
 oif (c:=aC c fR) h fun h1 h=>by
  rw [bH h1]
  refine .mk (.g (YM w)) fun A X s at_ Q E q=>?_
  have k:aG NoX (hF w) s.heap:=at_.base
  have X1:(KC w).In s.heap:=(aM7 w).keeps fun b o e=>k b o e id
  refine bor (c:=aC a n_S) h (fun h2 h=>?_) fun h=>oif h fun h2 h=>?_
  ·cases h
   rw [bH h2]
   exact cls_value (v:=.str (mkS [32]) 209) (mc:=.type "type") X1 (by kernel_rfl) (by kernel_rfl) (by kernel_rfl) (q _ _ ⟨Ext.tok _ _ _,show iD [32] _ from .mk _⟩)
  ·cases h
   rw [bH h2]
   exact cls_value (v:=.str (mkS [9]) 210) (mc:=.type "type") X1 (by kernel_rfl) (by kernel_rfl) (by kernel_rfl) (q _ _ ⟨Ext.tok _ _ _,show iD [9] _ from .mk _⟩)
end
noncomputable def esO (o:Obj):Array DictEntry:=match o.data with
 |.dict es _=>es
 |_=>#[]
noncomputable def epO (o:Obj):Nat:=match o.data with
 |.dict _ n=>n
 |_=>0
noncomputable def fD (e:DictEntry):Int:=match e.key with
 |.int i _=>i
 |_=>-1
noncomputable def rS (e:DictEntry):Tok:=match e.key with
 |.int _ t=>t
 |.str _ t=>t
 |_=>0
noncomputable def oO (e:DictEntry):PySem.Str:=match e.key with
 |.str s _=>s
 |_=>mkS []
noncomputable def uG (e:DictEntry):PySem.Str:=match e.val with
 |.str s _=>s
 |_=>mkS []
noncomputable def FV (e:DictEntry):Int:=match e.val with
 |.int i _=>i
 |_=>0
noncomputable def yN (e:DictEntry):Tok:=match e.val with
 |.int _ t=>t
 |.str _ t=>t
 |_=>0
noncomputable abbrev esA (w:World)(a:Addr):List DictEntry:=(esO (atO (hF w) a)).toList
section
variable {prog:Program}{w w':World}
theorem YU {a:Addr}(h1:(hF w).get? a=some (atO (hF w) a))(h2:((atO (hF w) a).cls,(atO (hF w) a).dict,(atO (hF w) a).slots)=(.type "dict",none,#[]))(h3:(atO (hF w) a).data=.dict (esO (atO (hF w) a)) (epO (atO (hF w) a)))
  (h4:(esA w a).map (fun e=>(e.hash,e.key))=(esA w a).map fun e=>(hashInt (fD e),.int (fD e) (rS e))):(hF w).MapOf (intKind prog w') a fun i=>((esA w a).find? fun e=>Value.isInt i e.key).map (·.val):=by
 obtain ⟨c1,c2⟩:=Prod.mk.inj h2
 obtain ⟨c2,c3⟩:=Prod.mk.inj c2
 refine ⟨_,_,_,h1,⟨c1,c2,c3⟩,h3,fun e he=>?_,fun k=>?_⟩
 ·have:=List.map_inj_left.mp h4 e (Array.mem_toList_iff.mpr he)
  simp only [Prod.mk.injEq] at this
  exact ⟨fD e,by rw [this.2]; simp [intKind,Value.isInt],this.1⟩
 ·unfold findBy
  rw [←Array.find?_toList]
  rfl
theorem aM9 {a:Addr}(h1:(hF w).get? a=some (atO (hF w) a))(h2:((atO (hF w) a).cls,(atO (hF w) a).dict,(atO (hF w) a).slots)=(.type "dict",none,#[]))(h3:(atO (hF w) a).data=.dict (esO (atO (hF w) a)) (epO (atO (hF w) a)))
  (h4:(esA w a).map (fun e=>(e.hash,e.key))=(esA w a).map fun e=>(hashStr w (oO e),.str (oO e) (rS e))):(hF w).MapOf (PySem.strKind prog w) a fun i=>((esA w a).find? fun e=>Value.isStrOf i e.key).map (·.val):=by
 obtain ⟨c1,c2⟩:=Prod.mk.inj h2
 obtain ⟨c2,c3⟩:=Prod.mk.inj c2
 refine ⟨_,_,_,h1,⟨c1,c2,c3⟩,h3,fun e he=>?_,fun k=>?_⟩
 ·have:=List.map_inj_left.mp h4 e (Array.mem_toList_iff.mpr he)
  simp only [Prod.mk.injEq] at this
  exact ⟨oO e,by rw [this.2]; simp [PySem.strKind,Value.isStrOf],this.1⟩
 ·unfold findBy
  rw [←Array.find?_toList]
  rfl
theorem FW {K:Type}[DecidableEq K]{knd:KeyKind prog w' K}{h h':Heap}{a:Addr}{f:K→Option Value}(m:h.MapOf knd a f)(k:aG NoX h h'):h'.MapOf knd a f:=
 let ⟨o,es,ep,ho,r⟩:=m; ⟨o,es,ep,k a o ho id,r⟩
theorem aMA {K:Type}[DecidableEq K]{knd:KeyKind prog w' K}{a:Addr}{f:K→Option Value}{A:Around}{s:Shared}{k:K}{kv:Value}(hm:s.heap.MapOf knd a f)(ha:(a==sysModules)=false)(hk:knd.is k kv=true){Q:Value→Shared→Prop}{E:Value→Shared→Prop}
  (h:Q ((f k).getD .none) {s with toks:=s.toks+1}):wpAny (model prog w') A (call (.builtin "dict.get") [.ref a,kv]) Q E s:=call_meetsIn F.slot_dict_get hm.typeIs F.entry_dict_get (F.args_dict_get_2 _ _) (meets_dict_get knd a hk ha) ⟨f,hm,h⟩
theorem aMB {K:Type}[DecidableEq K]{knd:KeyKind prog w' K}{a:Addr}{f:K→Option Value}{A:Around}{s:Shared}{k:K}{kv dv:Value}(hm:s.heap.MapOf knd a f)(ha:(a==sysModules)=false)(hk:knd.is k kv=true){Q:Value→Shared→Prop}{E:Value→Shared→Prop}
  (h:Q ((f k).getD dv) {s with toks:=s.toks+1}):wpAny (model prog w') A (call (.builtin "dict.get") [.ref a,kv,dv]) Q E s:=call_meetsIn F.slot_dict_get hm.typeIs F.entry_dict_get (F.args_dict_get_3 _ _ _) (meets_dict_get_default knd a hk ha dv) ⟨f,hm,h⟩
theorem aMC {K:Type}[DecidableEq K]{knd:KeyKind prog w' K}{a:Addr}{f:K→Option Value}{A:Around}{s:Shared}{k:K}{kv v:Value}{Q:Value→Shared→Prop}{E:Value→Shared→Prop}(hm:s.heap.MapOf knd a f)(hk:knd.is k kv=true)(hv:f k=some v)
  (h:Q v {s with toks:=s.toks+1}):SubscriptOn (model prog w') A (.ref a) kv Q E s:=
 ⟨"dict",_,F.slot_dict_getitem.lookup,hm.typeIs,wpAny_getItem_of hk hm hv h⟩
end
noncomputable def uH (s:List Nat):List (List Nat × Int)→Option Int
 |[]=>none
 |(k,v)::r=>bif aC k s then some v else uH s r
noncomputable def rU (i:Int):List (Int × List Nat)→Option (List Nat)
 |[]=>none
 |(k,v)::r=>bif k==i then some v else rU i r
theorem aMD (s k:List Nat)(v:Int)(r:List (List Nat × Int)):uH s ((k,v)::r)=bif aC k s then some v else uH s r:=rfl
theorem aME (i k:Int)(v:List Nat)(r:List (Int × List Nat)):rU i ((k,v)::r)=bif k==i then some v else rU i r:=rfl
theorem aMF (s k:List Nat)(t:Tok):Value.isStrOf (mkS s) (.str (mkS k) t)=aC k s:=QW k s
theorem YV:∀(l:List DictEntry) (s:List Nat),l.map (fun e=>(e.key,e.val))=l.map (fun e=>(.str (mkS (nm (oO e))) (rS e),.int (FV e) (yN e))) →
  match uH s (l.map fun e=>(nm (oO e),FV e)) with
  |some i=>∃t,(l.find? fun e=>Value.isStrOf (mkS s) e.key).map (·.val)=some (.int i t)
  |none=>(l.find? fun e=>Value.isStrOf (mkS s) e.key).map (·.val)=none
 |[],s,_=>rfl
 |e::l,s,h=>by
  have he:=List.map_inj_left.mp h e (.head _)
  simp only [Prod.mk.injEq] at he
  have ih:=YV l s (List.map_inj_left.mpr fun x hx=>List.map_inj_left.mp h x (.tail _ hx))
  rw [List.map_cons,aMD,List.find?_cons,he.1,aMF]
  cases q:aC (nm (oO e)) s with
  |true=>exact ⟨yN e,by simp only [Option.map_some]; rw [he.2]⟩
  |false=>exact ih
theorem FX (i:Int)(t:Tok):Value.isInt i (.int i t)=true:=by simp [Value.isInt]
theorem YW:∀(l:List DictEntry) (i:Int),l.map (fun e=>(e.key,e.val))=l.map (fun e=>(.int (fD e) (rS e),.str (mkS (nm (uG e))) (yN e))) →
  match rU i (l.map fun e=>(fD e,nm (uG e))) with
  |some x=>∃t,(l.find? fun e=>Value.isInt i e.key).map (·.val)=some (iC x t)
  |none=>(l.find? fun e=>Value.isInt i e.key).map (·.val)=none
 |[],i,_=>rfl
 |e::l,i,h=>by
  have he:=List.map_inj_left.mp h e (.head _)
  simp only [Prod.mk.injEq] at he
  have ih:=YW l i (List.map_inj_left.mpr fun x hx=>List.map_inj_left.mp h x (.tail _ hx))
  rw [List.map_cons,aME,List.find?_cons,he.1]
  show (match (bif fD e==i then some (nm (uG e)) else rU i (l.map fun e=>(fD e,nm (uG e)))) with |some x=>_ |none=>_)
  cases q:fD e==i with
  |true=>
   have:Value.isInt i (.int (fD e) (rS e))=true:=by rw [beq_iff_eq.mp q]; simp [Value.isInt]
   rw [this]
   exact ⟨yN e,by simp only [Option.map_some]; rw [he.2]; rfl⟩
  |false=>
   have:Value.isInt i (.int (fD e) (rS e))=false:=by
    have:=beq_eq_false_iff_ne.mp q
    simp [Value.isInt,this]
   rw [this]
   exact ih
inductive YY (prog:Program)(w:World)(me:Value→Prop)(a:Addr)(kv:Value)(r:Option PV):Prop
 |mk {K:Type} {dK:DecidableEq K} {knd:PySem.KeyKind prog w K} {f:K→Option Value} {kk:K} (m:(hF w).MapOf knd a f) (i:knd.is kk kv=true) (n:r=none→f kk=none) (s:∀x,r=some x→∃v,f kk=some v∧∀X h,Rep ((C2 w).as me) X h x v):YY prog w me a kv r
structure yP (prog:Program)(w:World)(me:Value→Prop)(t:Nm)(k:PV)(r:Option PV)(a:Addr):Prop where
 g:(C2 w).gm (mkS t)=some (.ref a)
 m:(a==sysModules)=false
 o:∃ob,(hF w).get? a=some ob∧ob.cls=.type "dict" ∧ ob.dict=none
 k:∀X h kv,Rep ((C2 w).as me) X h k kv→YY prog w me a kv r
theorem aMG (w:World)(s:List Nat):jX s exD=uH s ((esA w 167).map fun e=>(nm (oO e),FV e)):=by kernel_rfl
theorem aMH (w:World)(i:Int):qX i flD=rU i ((esA w 88).map fun e=>(fD e,nm (uG e))):=by kernel_rfl
theorem aMI (prog:Program)(w:World)(me:Value→Prop)(s:List Nat):yP prog w me vK (.str s) ((jX s exD).map .int) 167:=by
 refine ⟨by kernel_rfl,by decide,⟨_,(by kernel_rfl:(hF w).get? 167=some (atO (hF w) 167)),by kernel_rfl,by kernel_rfl⟩,fun X h kv r=>?_⟩
 have r:iD s kv:=r
 cases r with |mk t=>
 have this:=YV (esA w 167) s (by kernel_rfl)
 rw [←aMG] at this
 refine .mk (kk:=mkS s) (aM9 (prog:=prog) (w:=w) (a:=167) (by kernel_rfl) (by kernel_rfl) (by kernel_rfl) (by kernel_rfl)) (beq_self_eq_true (mkS s)) (fun e=>?_) fun x e=>?_
 ·cases q:jX s exD with
  |none=>rw [q] at this; exact this
  |some i=>rw [q] at e; cases e
 ·cases q:jX s exD with
  |none=>rw [q] at e; cases e
  |some i=>
   rw [q] at e this
   cases e
   obtain ⟨t,h⟩:=this
   exact ⟨_,h,fun X h=>show dY i _ from .mk t⟩
theorem aMJ (prog:Program)(w:World)(me:Value→Prop)(i:Int):yP prog w me AW (.int i) ((qX i flD).map .str) 88:=by
 refine ⟨by kernel_rfl,by decide,⟨_,(by kernel_rfl:(hF w).get? 88=some (atO (hF w) 88)),by kernel_rfl,by kernel_rfl⟩,fun X h kv r=>?_⟩
 have r:dY i kv:=r
 cases r with |mk t=>
 have this:=YW (esA w 88) i (by kernel_rfl)
 rw [←aMH] at this
 refine .mk (kk:=i) (YU (prog:=prog) (w:=w) (w':=w) (a:=88) (by kernel_rfl) (by kernel_rfl) (by kernel_rfl) (by kernel_rfl)) (FX i t) (fun e=>?_) fun x e=>?_
 ·cases q:qX i flD with
  |none=>rw [q] at this; exact this
  |some i=>rw [q] at e; cases e
 ·cases q:qX i flD with
  |none=>rw [q] at e; cases e
  |some x=>
   rw [q] at e this
   cases e
   obtain ⟨t,h⟩:=this
   exact ⟨_,h,fun X h=>show iD x _ from .mk t⟩
noncomputable def b3K:List Int:=[0,1,2,4,7,8,9,10,11,12].flatMap fun k=>(List.range 26).map fun (l:Nat)=>(119808+52*k+l:Int)
noncomputable def isV (x:List Nat):Option Value→Bool
 |some (.str s _)=>aC (nm s) x
 |_=>false
theorem aMK (w:World):(b3K.take 52).all (fun i=>isV [97+((i.toNat-119808)%52)] (((esA w 121).find? fun e=>Value.isInt i e.key).map (·.val)))=true:=by kernel_rfl
theorem aML (w:World):((b3K.drop 52).take 52).all (fun i=>isV [97+((i.toNat-119808)%52)] (((esA w 121).find? fun e=>Value.isInt i e.key).map (·.val)))=true:=by kernel_rfl
theorem aMM (w:World):(((b3K.drop 52).drop 52).take 52).all (fun i=>isV [97+((i.toNat-119808)%52)] (((esA w 121).find? fun e=>Value.isInt i e.key).map (·.val)))=true:=by kernel_rfl
theorem aMN (w:World):((((b3K.drop 52).drop 52).drop 52).take 52).all (fun i=>isV [97+((i.toNat-119808)%52)] (((esA w 121).find? fun e=>Value.isInt i e.key).map (·.val)))=true:=by kernel_rfl
theorem aMO (w:World):((((b3K.drop 52).drop 52).drop 52).drop 52).all (fun i=>isV [97+((i.toNat-119808)%52)] (((esA w 121).find? fun e=>Value.isInt i e.key).map (·.val)))=true:=by kernel_rfl
theorem aMP (w:World){i:Int}(h:i∈b3K):isV [97+((i.toNat-119808)%52)] (((esA w 121).find? fun e=>Value.isInt i e.key).map (·.val))=true:=by
 rcases mH 52 h with h |h
 ·exact List.all_eq_true.mp (aMK w) i h
 rcases mH 52 h with h |h
 ·exact List.all_eq_true.mp (aML w) i h
 rcases mH 52 h with h |h
 ·exact List.all_eq_true.mp (aMM w) i h
 rcases mH 52 h with h |h
 ·exact List.all_eq_true.mp (aMN w) i h
 ·exact List.all_eq_true.mp (aMO w) i h
theorem aMQ (w:World):((esA w 121).all fun e=>match e.key with |.int i _=>decide (128≤i) |_=>false)=true:=by kernel_rfl
theorem aMR (prog:Program)(w:World):(hF w).MapOf (intKind prog w) 121 fun i=>((esA w 121).find? fun e=>Value.isInt i e.key).map (·.val):=YU (prog:=prog) (w:=w) (w':=w) (a:=121) (by kernel_rfl) (by kernel_rfl) (by kernel_rfl) (by kernel_rfl)
inductive FY (i:Int):Option (List Nat)→Prop
 |low (h0:0≤i) (h1:i<128):FY i none
 |mem (h:i∈b3K):FY i (some [97+((i.toNat-119808)%52)])
theorem YZ {i:Int}{o:Option (List Nat)}(h:xG i=some o):FY i o:=by
 cases i with
 |negSucc n=>cases h
 |ofNat c=>
  refine bor (c:=decide (119808≤c)) h (fun h1 h=>oif h fun h2 h=>aP h2 fun h3 h4=>?_) fun h=>oif h fun h2 h=>?_
  ·cases h
   obtain ⟨k,hk,e⟩:=List.any_eq_true.mp h4
   have e:=eq_of_beq e
   refine .mem (List.mem_flatMap.mpr ⟨(k:Int),List.mem_map.mpr ⟨k,hk,rfl⟩,List.mem_map.mpr ⟨(c-119808)%52,List.mem_range.mpr (dec h3),?_⟩⟩)
   show (119808+52*(k:Int)+(((c-119808)%52:Nat):Int))=(c:Int)
   have g:119808+(52*((c-119808) / 52)+(c-119808)%52)=c:=by rw [Nat.div_add_mod]; exact Nat.add_sub_cancel' (dec h1)
   rw [←e]
   exact (Int.add_assoc _ _ _).trans (congrArg Int.ofNat g)
  ·cases h
   exact .low (Int.natCast_nonneg c) (Int.ofNat_lt.mpr (dec h2))
section
variable (prog:Program)(w:World)(me:Value→Prop)
theorem aMS (i:Int)(o:Option (List Nat))(h:xG i=some o):yP prog w me AU (.int i) (o.map .str) 121:=by
 refine ⟨by kernel_rfl,by decide,⟨_,(by kernel_rfl:(hF w).get? 121=some (atO (hF w) 121)),by kernel_rfl,by kernel_rfl⟩,fun X hh kv r=>?_⟩
 have r:dY i kv:=r
 cases r with |mk t=>
 refine .mk (kk:=i) (aMR prog w) (FX i t) (fun e=>?_) fun x e=>?_
 ·cases YZ h with
  |mem hm=>cases e
  |low h0 h1=>
   show ((esA w 121).find? fun e=>Value.isInt i e.key).map (·.val)=none
   rw [List.find?_eq_none.mpr fun e he hi=>?_]
   ·rfl
   ·have:=List.all_eq_true.mp (aMQ w) e he
    obtain ⟨t,hk⟩:=Value.isInt_shape hi
    rw [hk] at this
    exact Int.not_le.mpr h1 (of_decide_eq_true this)
 ·cases YZ h with
  |low h0 h1=>cases e
  |mem hm=>
   cases e
   have:=aMP w hm
   show ∃v,((esA w 121).find? fun e=>Value.isInt i e.key).map (·.val)=some v∧_
   generalize ((esA w 121).find? fun e=>Value.isInt i e.key).map (·.val)=ov at this
   cases ov with
   |none=>cases this
   |some v=>
    cases v with
    |str s t=>
     have e:=bH (show aC (nm s) [97+((i.toNat-119808)%52)]=true from this)
     exact ⟨_,rfl,fun X h=>show iD _ _ from by rw [←e]; show iD (nm s) (.str s t); rw [←jB s]; exact .mk t⟩
    |_=>cases this
theorem ZA:∀t k r,T2.table t k=some r→∃a,yP prog w me t k r a:=by
 intro t k r h
 cases k with
 |int i=>
  refine bor (c:=aC t AU) h (fun h1 h=>?_) fun h=>oif h fun h2 h=>?_
  ·rw [bH h1]
   cases q:xG i with
   |none=>rw [q] at h; cases h
   |some o=>rw [q] at h; cases h; exact ⟨_,aMS prog w me i o q⟩
  ·rw [bH h2]; cases h; exact ⟨_,aMJ prog w me i⟩
 |str s=>exact oif (c:=aC t vK) h fun h1 h=>by rw [bH h1]; cases h; exact ⟨_,aMI prog w me s⟩
 |_=>cases h
end
section
variable (w:World)(me:Value→Prop)
theorem aMT:∀t d x,T2.table t d=some (some x)→dQ ((C2 w).as me) t fun vt=>∀A X s dv,At (TL w me) A X s→Rep ((C2 w).as me) X s.heap d dv→CG (TL w me) A vt dv s (ER ((C2 w).as me) X s (.v x)):=by
 intro t d x h
 obtain ⟨a,q⟩:=ZA eL w me t d (some x) h
 refine .mk (.g q.g) fun A X s dv at_ r Q E k=>?_
 cases q.k _ _ _ r with |mk m i n s=>
 obtain ⟨v,m4,m5⟩:=s x rfl
 exact aMC (FW m at_.base) i m4 (k _ _ ⟨Ext.tok _ _ _,m5 _ _⟩)
theorem aMU:∀t k r,T2.table t k=some r→dQ ((C2 w).as me) t fun vt=>∃a,vt=.ref a∧RE (TL w me) k r a:=by
 intro t k r h
 obtain ⟨a,q⟩:=ZA eL w me t k r h
 refine .mk (.g q.g) ⟨a,rfl,q.o,fun A X s kv at_ rk Q E k=>?_,fun A X s kv d dv at_ rk rd Q E k=>?_⟩
 ·cases q.k _ _ _ rk with |mk m i n s=>
  refine aMA (FW m at_.base) q.m i (k _ _ ⟨Ext.tok _ _ _,?_⟩)
  cases r with
  |none=>rw [n rfl]; exact rfl
  |some x=>obtain ⟨v,m4,m5⟩:=s x rfl; rw [m4]; exact m5 _ _
 ·cases q.k _ _ _ rk with |mk m i n s=>
  refine aMB (FW m at_.base) q.m i (k _ _ ⟨Ext.tok _ _ _,?_⟩)
  cases r with
  |none=>rw [n rfl]; exact rd
  |some x=>obtain ⟨v,m4,m5⟩:=s x rfl; rw [m4]; exact m5 _ _
end
noncomputable def seO (o:Obj):Array (Int × Value) × Nat × SetTable:=match o.data with
 |.set es ep t=>(es,ep,t)
 |_=>(#[],0,{mask:=0,place:=#[],dummies:=#[],finger:=0,led:=false,moves:=0,plain:=true})
noncomputable abbrev stA (w:World):List (Int × Value):=(seO (atO (hF w) 110)).1.toList
noncomputable def ivV:Value→Int
 |.int i _=>i
 |_=>0
noncomputable def itV:Value→Tok
 |.int _ t=>t
 |_=>0
noncomputable def b1S:List Int:=[65024,65025,65026,65027,65028,65029,6150,65030,65031,65032,65033,6155,6156,6157,8203,8204,8205,65034,65035,65036,65037,65038,65039,173,847,8288,65279]
theorem aMV (k:Int):eB k=true↔k∈b1S:=by
 constructor
 ·intro h
  rcases Bool.or_eq_true _ _▸h with h |h
  ·obtain ⟨x,hx,e⟩:=List.any_eq_true.mp h
   rw [beq_iff_eq] at e
   subst e
   exact List.contains_iff_mem.mp (List.all_eq_true.mp (by kernel_rfl:b1L.all (b1S.contains ·)=true) _ hx)
  ·rw [Bool.and_eq_true,decide_eq_true_eq,decide_eq_true_eq] at h
   obtain ⟨n,hn⟩:=Int.le.dest h.1
   subst hn
   exact List.contains_iff_mem.mp (List.all_eq_true.mp (by kernel_rfl:(List.range 16).all (fun n=>b1S.contains (65024+(n:Int)))=true) n (List.mem_range.mpr (by omega)))
 ·exact fun h=>List.all_eq_true.mp (by kernel_rfl:b1S.all eB=true) k h
theorem aMW (prog:Program)(w:World):(hF w).SetOf (intKind prog w) 110 eB 27:=by
 have e:(stA w).map (fun e=>(e.1,e.2,e.2.scannable))=(stA w).map fun e=>(hashInt (ivV e.2),.int (ivV e.2) (itV e.2),true):=by kernel_rfl
 have el:∀x∈stA w,x.1=hashInt (ivV x.2)∧x.2=.int (ivV x.2) (itV x.2)∧x.2.scannable=true:=fun x hx=>by
  have:=List.map_inj_left.mp e x hx
  simpa using this
 have e2:(stA w).map (fun e=>ivV e.2)=[65024,65025,65026,65027,65028,65029,6150,65030,65031,65032,65033,6155,6156,6157,8203,8204,8205,65034,65035,65036,65037,65038,65039,173,847,8288,65279]:=by kernel_rfl
 refine ⟨_,_,_,_,(by kernel_rfl:(hF w).get? 110=some (atO (hF w) 110)),⟨by kernel_rfl,by kernel_rfl,by kernel_rfl⟩,(by kernel_rfl:(atO (hF w) 110).data=.set (seO (atO (hF w) 110)).1 (seO (atO (hF w) 110)).2.1 (seO (atO (hF w) 110)).2.2),fun x hx=>?_,fun k=>?_,?_,by kernel_rfl,by kernel_rfl⟩
 rotate_right
 ·rw [show (seO (atO (hF w) 110)).1.size=27 by kernel_rfl]; decide
 ·obtain ⟨a,b,c⟩:=el x hx
  exact ⟨⟨ivV x.2,by rw [b]; simp [intKind,Value.isInt,ivV],a⟩,c⟩
 ·have h1:(∃x∈stA w,(intKind prog w).is k x.2=true)↔k∈(stA w).map fun e=>ivV e.2:=by
   rw [List.mem_map]
   constructor
   ·rintro ⟨x,hx,hk⟩
    refine ⟨x,hx,?_⟩
    rw [(el x hx).2.1] at hk
    simpa [intKind,Value.isInt] using hk
   ·rintro ⟨x,hx,hk⟩
    refine ⟨x,hx,?_⟩
    rw [(el x hx).2.1]
    simp [intKind,Value.isInt,hk]
  rw [h1,e2]
  exact aMV k
theorem aMX (w:World)(me:Value→Prop):∀t d b,T2.inSet t d=some b→dQ ((C2 w).as me) t fun vt=>∀A X s dv,At (TL w me) A X s→Rep ((C2 w).as me) X s.heap d dv→Tr (model eL w) A (compareOp .In dv vt) s (VR s (Value.bool b)):=by
 intro t d b h
 cases d with
 |int i=>
  refine oif (c:=aC t AV) h fun h1 h=>?_
  cases h
  rw [bH h1]
  refine .mk (.g (by kernel_rfl:(C2 w).gm (mkS AV)=some (.ref 110))) fun A X s dv at_ r Q E k=>?_
  have r:dY i dv:=r
  cases r with |mk t=>
  obtain ⟨o,es,ep,tb,ho,rest⟩:=aMW eL w
  exact wpAny_inSet_of (knd:=intKind eL w) (k:=i) (FX i t) (by rfl) ⟨o,es,ep,tb,at_.base _ _ ho id,rest⟩ (k _ _ ⟨Ext.tok _ _ _,rfl⟩)
 |_=>cases h
noncomputable def vD:Df:=dfI 6
noncomputable def hdV:List S→S
 |s::_=>s
 |[]=>.pass default
noncomputable def vB:List S:=vD.body
noncomputable def wlB:List S:=match hdV (vB.drop 2) with
 |.whl _ b _ _=>b
 |_=>[]
noncomputable def wlT:E:=match hdV (vB.drop 2) with
 |.whl t _ _ _=>t
 |_=>.const .none 0 default
noncomputable abbrev vG:Gl:=fK (tU T2) jI jI vD
noncomputable abbrev sv (a:Nat)(l:List PV)(b v:Int):Sg:=[(nm "iterator",.iter (some a) l),(nm "b",.fz (.int b)),(nm "val",.fz (.int v))]
noncomputable abbrev vL:Nat→Sg→Rs:=jA (fun σ=>tr vG wlT σ (ev vG wlT σ)) (exs vG wlB) (exs vG [])
theorem aMY (a:Nat)(c:Int)(r:List PV):exs vG vB [(nm "iterator",.iter (some a) (.int c::r))]=nK (vL 200 (sv a r c (Builtin.bitAnd c 63))) (exs vG (vB.drop 3)):=by kernel_rfl
theorem v_t (a:Nat)(l:List PV)(b v:Int):tr vG wlT (sv a l b v) (ev vG wlT (sv a l b v))=some (Builtin.bitAnd b 64 != 0):=by kernel_rfl
theorem v_w (a:Nat)(c:Int)(r:List PV)(b v:Int):exs vG wlB (sv a (.int c::r) b v)=nK (dA (((bif decide (v.natAbs<2 ^ 64) then some (v*64) else none).map PV.int).map fun d=>[(nm "iterator",.iter (some a) (.int c::r)),(nm "b",.fz (.int b)),(nm "val",.fz d)])) (exs vG (wlB.drop 1)):=by kernel_rfl
theorem aMZ (a:Nat)(c:Int)(r:List PV)(b v:Int):exs vG (wlB.drop 1) (sv a (.int c::r) b v)=some (.next,sv a r c (Builtin.bitOr v (Builtin.bitAnd c 63))):=by kernel_rfl
theorem v_3 (a:Nat)(l:List PV)(b v:Int):exs vG (vB.drop 3) (sv a l b v)=some (.ret (.int v),sv a l b v):=by kernel_rfl
theorem FZ (a:Nat):∀(n:Nat) (val b:Int) (l r:List PV) (d:PV),vGo n val b l=some (d,r)→∃i b',d=.int i∧vL n (sv a l b val)=some (.next,sv a r b' i)
 |0,_,_,_,_,_,h=>by cases h
 |n+1,val,b,l,r,d,h=>by
  have h:(bif Builtin.bitAnd b 64==0 then some (PV.int val,l) else match (generalizing:=false) l with
   |.int c::r=>bif decide (val.natAbs<2 ^ 64) then vGo n (Builtin.bitOr (val*64) (Builtin.bitAnd c 63)) c r else none
   |_=>none)=some (d,r):=h
  show ∃i b',d=.int i∧(match tr vG wlT (sv a l b val) (ev vG wlT (sv a l b val)) with
   |some false=>exs vG [] (sv a l b val)
   |some true=>match exs vG wlB (sv a l b val) with
    |some (.next,σ)=>vL n σ
    |some (.brk,σ)=>some (.next,σ)
    |x=>x
   |none=>none)=some (.next,sv a r b' i)
  rw [v_t]
  cases q:Builtin.bitAnd b 64==0 with
  |true=>
   rw [q] at h
   cases h
   rw [show (Builtin.bitAnd b 64 != 0)=false by rw [bne,q]; rfl]
   exact ⟨val,b,rfl,rfl⟩
  |false=>
   rw [q] at h
   rw [show (Builtin.bitAnd b 64 != 0)=true by rw [bne,q]; rfl]
   cases l with
   |nil=>cases h
   |cons x r'=>cases x with
    |int c=>
     refine oif h fun q2 h=>?_
     obtain ⟨i,b',e1,e2⟩:=FZ a n _ _ _ _ _ h
     refine ⟨i,b',e1,?_⟩
     have body:exs vG wlB (sv a (.int c::r') b val)=some (.next,sv a r' c (Builtin.bitOr (val*64) (Builtin.bitAnd c 63))):=by
      rw [v_w,q2]
      exact aMZ a c r' b (val*64)
     rw [body]
     exact e2
    |_=>cases h
section
variable (w:World)(me:Value→Prop)
theorem aNa:∀f xs d r,T2.icall f xs=some (d,r)→DS ((C2 w).as me) T2 f xs d r:=fun f xs d r h=>oif (c:=aC f UF) h fun hf h=>by
 rw [bH hf]
 cases xs with
 |nil=>cases h
 |cons x l=>cases x with
  |int c=>
   have h:vGo 200 (Builtin.bitAnd c 63) c l=some (d,r):=h
   obtain ⟨i,_,e,_⟩:=FZ 0 200 _ _ _ _ _ h
   subst e
   refine .mk (D:=vD) (fA:=102) (p:=nm "iterator") rfl (by kernel_rfl) (by kernel_rfl) (YQ w me) fun a=>?_
   obtain ⟨i',b',e1,e2⟩:=FZ a 200 _ _ _ _ _ h
   cases e1
   refine ⟨sv a r b' i,?_,by kernel_rfl⟩
   show exs vG vB _=_
   rw [aMY,e2]
   exact v_3 a r b' i
  |_=>cases h
theorem aNb (D:Df):aY (TL w me) (fK (tU T2) jI jI D):=
 {gns:=Heap.Ns.of_isNs (by kernel_rfl)
  bns:=Heap.Ns.of_isNs (by kernel_rfl)
  const:=aLT w me
  tab:=aMT w me
  inSet:=aMX w me
  cattr:=aM8 w me
  fld:=aM5 w me
  sto:=aM6 w me
  tget:=aMU w me
  bud:=fun A h=>⟨h.handled,h.guards,by have:=h.units; omega⟩
  bname:=aLU w me
  bval:=aLV w me
  icall:=fun zz zz zz zz h=>by cases h
  call:=fun zz zz zz h=>by cases h
  meth:=fun zz zz zz h=>by cases h}
theorem aNc:UA eL w (C2 w) T2 where
 hlim:=⟨_,Heap.Ns.of_isNs (by kernel_rfl),by kernel_rfl⟩
 leaf:=aNb w
 icall:=aNa w
 dfs:=aM2 w
 cls:=aM3 w
 meths me:=aM4 w me eL
end
theorem ZB {P:Params}{C:Cx}{X:Addr→Prop}{h:Heap}:∀{xs:List Int} {vs:List Value},WellAll P h vs (xs.map WData.int)→Reps C X h (xs.map .int) vs
 |[],vs,r=>by cases r; exact rfl
 |x::xs,vs,r=>by
  cases r with
  |cons h1 h2=>cases h1 with
   |int i t=>exact ⟨show dY x _ from .mk t,ZB h2⟩
theorem ZC:∀xs:List Int,ofPys (xs.map PyData.int)=xs.map WData.int
 |[]=>by simp [ofPys]
 |x::r=>by simp [ofPys,ofPy,ZC r]
set_option tactic.hygienic true in
theorem walk:WalkO Mine.G.qv Mine.G.looseV (XL Mine.G.qv []) Mine.G.YPv PySem.Challenge.rw_sr0089_01.row.toRowW Mine.G.lawD [] fun f vs=>PySem.call f vs:=by
 intro w s₀ s₁ mg mb G Y a o pm cd doc dV kV ho hd hcd hD hmg hg args vals as hpre hlay hrd hwl hlo
 wrow_args hpre hlay hrd hwl hlo
 rename_i xs _ _ _ _ _ _ _ l _ _ _ _ w1 _ _ _ hlen _
 have k:aG NoX (hF w) s₁.heap:=fun b o e zz=>Y b o e
 have gns:(hF w).Ns 3 (C2 w).gm:=Heap.Ns.of_isNs (by kernel_rfl)
 have hm:mg Mine.G.lawD.name=(C2 w).gm (mkS jY):=Ns.uniq G.T.g (Ns.keepX gns k id) _
 have eLaw:(C2 w).gm (mkS jY)=some (.ref 290):=by kernel_rfl
 rw [hm,eLaw] at hmg
 cases hmg
 have law:(eJ T2 3).call jY [.list (xs.map .int)]=some (.bool true):=aLS 0 xs (by omega)
 cases (aGf (aNc w) 3 (C2 w).me vD).call jY [.list (xs.map .int)] (.bool true) law with | @mk vf gv fo=>
 have h1:vf=.ref 290:=by
  cases gv with
  |g h=>exact Option.some.inj (h.symm.trans eLaw)
  |b n h=>exact absurd (eLaw.symm.trans n) nofun
 subst h1
 have hw:ofPy (PyData.list (xs.map PyData.int))=.list (xs.map .int):=by simp only [ofPy,ZC]
 rw [hw] at w1
 have rep:Reps ((C2 w).as (C2 w).me) NoX s₁.heap [.list (xs.map .int)] [.ref l]:=by
  cases w1 with
  |list hget hall=>exact ⟨show LV _ _ _ _ _ from .mk id hget (ZB hall),rfl⟩
 have pb:PB 3 callerA:=⟨rfl,rfl,by decide +kernel,by decide +kernel⟩
 refine fo.run callerA NoX s₁ [.ref l] ⟨pb,k,nofun,nofun⟩ rep _ _ fun v s' q=>?_
 have q2:v=.bool true:=q.r
 subst q2
 refine ⟨.inl ⟨_,.bool true,[],rfl,fun zz=>rfl,.bool true,?_,fun zz=>⟨.nil,fun zz h=>by cases h⟩⟩,.of_keep fun b o e=>q.x.keep b o e id,q.x.os,.of_eq (q.x.gens.trans hg)⟩
 wrow_post
end Mine.V
theorem PySem.Challenge.cw_sr0089_01_holds : PySem.Challenge.rw_sr0089_01.Holds :=
  Mine.G.holds_of Mine.V.walk
