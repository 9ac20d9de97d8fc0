import PyProof.Rows.All
import Wide.All
import OpenK.AllK
import Wide.FinOn
import PyProof.Ns1
import PyProof.InstStore
import PyProof.Cells
import PyProof.P3In
import PyProof.Rows.InDataRows
import PyProof.EqLayable
import PyProof.LetGo
import PyProof.DictStraight
import PyProof.SliceList
import PyProof.SliceMore
import PyProof.ListIndexNeg
import PyProof.TupleOps
import PyProof.StrOps
import PyProof.CallRoads
import PyProof.SliceSyntax
import PyProof.WalkInts
import PyProof.Rows.SumAny
import PyProof.Rows.SumGenD
import PyProof.SeqI3
import PyProof.Rows.SortStr
import PyProof.Rows.SortWalk
import PyProof.Rows.StrBin
import PyProof.Rows.StrOrd
import PyProof.Rows.StrMeet
import PyProof.ReprRoads
import PyProof.TupleOfSeq
import KE.BytesMake
import PyProof.Rows.Chain
import PyProof.StrCalls2
import PyProof.CallRoads3
import PyProof.Rows.StrJoin2
import PyProof.Rows.StrLen
import PyProof.SeqRoads2
import PyProof.TupleIter
import PyProof.Walks
import PyProof.WalksMore
import PyProof.WalksPairs
import PyProof.StrWalks
import PyProof.EnumMake
import PyProof.RangeFor
import PyProof.ListRange
import PyProof.ZipIter
import PyProof.CompFree
import OpenK.KLine
import PyProof.PlainList
import PyProof.SeqRoads
import PyProof.AutoSeq1
import PyProof.RulesAssignMore
import PyProof.Dict
import PyProof.ForAppend
import PyProof.Rows.RuleB_and
import PyProof.Rows.RuleB_or
import PyProof.Rows.RuleB_xor
import PyProof.Rows.RuleB_rshift
import PyProof.Rows.RuleB_small
import KE.KBytesWalk
import KE.KDictIter
import PyProof.ObjNew
import PyProof.StrLawsChain
import PyProof.InstLoad
import PyProof.InstStoreFacts
import OpenK.KCls
import OpenK.KGet
import PyProof.DictRoads
import PyProof.DictCalls
import PyProof.SetRoads
import Lean
import PySem.Challenge.RW_sr0089_02
set_option maxRecDepth 100000
set_option maxHeartbeats 0
set_option linter.all false
set_option linter.unusedVariables false
set_option Elab.async false
set_option bootstrap.genMatcherCode false
set_option tactic.hygienic false
namespace Mine.G
open PySem PySem.W PyProof.Rows PySem.Calls
noncomputable abbrev Res (α:Type):=Option (α × Pos × BT × Nat × Nat × Nat)
noncomputable abbrev CallT:=Code → List (Code × Pos) → Pos → BT → Nat → Nat → Nat → Option (Result × BT × Nat × Nat × Nat)
noncomputable def mayUpd (n₀:Nat) (ann:Option Value) (a:Addr):Bool:=Nat.ble n₀ a || a == mainNs || a == cStatics || ann == some (.ref a)
noncomputable def quietC:Code → Bool
 | .builtin id _=>!id.startsWith "lifetime."
 | _=>true
theorem ble_of {a n:Nat} (h:Nat.blt a n=true):a < n:=Nat.le_of_ble_eq_true h
theorem ble_no {a n:Nat} (h:Nat.blt a n=false):¬ a < n:=fun q=>Bool.noConfusion ((Nat.ble_eq_true_of_le q:Nat.blt a n=true).symm.trans h)
noncomputable def onB {γ:Type} (b:Bool) (x:Option γ):Option γ:=match b with
 | true=>x
 | false=>none
noncomputable def onO {δ γ:Type} (o:Option δ) (f:δ → Option γ):Option γ:=match o with
 | some y=>f y
 | none=>none
theorem onB_some {γ:Type} {b:Bool} {x:Option γ} {r:γ} (h:onB b x=some r):b=true ∧ x=some r:=match b,h with
 | true,h=>⟨rfl,h⟩
theorem onO_some {δ γ:Type} {o:Option δ} {f:δ → Option γ} {r:γ} (h:onO o f=some r):∃ y,o=some y ∧ f y=some r:=match o,h with
 | some y,h=>⟨y,rfl,h⟩
theorem onB_of {γ:Type} {b:Bool} {x r:Option γ} (e:b=true) (h:x=r):onB b x=r:=by rw [e]; exact h
theorem onO_of {δ γ:Type} {o:Option δ} {f:δ → Option γ} {r:Option γ} {y:δ} (e:o=some y) (h:f y=r):onO o f=r:=by rw [e]; exact h
noncomputable abbrev Ret:=Result × BT × Nat × Nat × Nat
section
variable (call:CallT) (p:Program) (w:World) (n₀:Nat) (ann:Option Value) (code:Code) (below:List (Code × Pos))
noncomputable def go {α:Type} (t:Sem α):Pos → BT → Nat → Nat → Nat → Res (Except Value α):=
 @Sem.rec α (fun zz=>Pos → BT → Nat → Nat → Nat → Res (Except Value α))
   (fun a q T n k c=>some (.ok a,q,T,n,k,c))
   (fun e q T n k c=>some (.error e,q,T,n,k,c))
   (fun zz zz zz zz zz zz=>none)
   (fun zz zz zz zz zz zz=>none)
   (fun zz zz ih q T n k c=>ih () q T n k (c + 1))
   (fun q' zz ih zz T n k c=>ih () q' T n k (c + 1))
   (fun a zz zz ih q T n k c=>onB (Nat.blt a n) (onO (T.get a) fun o=>onO (alive o) fun o'=>ih o' q T n k (c + 1)))
   (fun a zz f zz ih q T n k c=>onB (mayUpd n₀ ann a) (onB (Nat.blt a n) (onO (T.get a) fun o=>onO (alive o) fun zz=>ih () q (T.set a f) n k (c + 1))))
   (fun o zz ih q T n k c=>onB ((T.ins n o).get n).isSome (ih n q (T.ins n o) (n + 1) k (c + 1)))
   (fun a zz ih q T n k c=>match Nat.blt a n with
   | true=>onO (T.get a) fun o=>ih (alive o) q T n k (c + 1)
   | false=>ih none q T n k (c + 1))
   (fun zz zz ih q T n k c=>ih () q T n k (c + 1))
   (fun zz zz zz zz zz zz zz zz=>none)
   (fun zz ih q T n k c=>ih k q T n (k + 1) (c + 1))
   (fun zz ih q T n k c=>ih ⟨p,w.params⟩ q T n k (c + 1))
   (fun zz zz zz zz zz zz zz zz zz=>none)
   (fun zz zz zz zz zz zz zz zz zz=>none)
   (fun cc h zz zz zz ih q T n k c=>match h with
   | some _=>none
   | none=>onO (call cc ((code,q) :: below) q T n k (c + 1)) fun x:Ret=>match x with | (r,T',n',k',c')=>ih r q T' n' k' c')
   (fun zz zz ih q T n k c=>ih none q T n k (c + 1))
   (fun zz zz zz zz zz zz zz zz=>none)
   (fun zz zz zz zz zz zz zz zz=>none)
   (fun zz zz zz zz zz zz zz zz zz zz=>none)
   (fun zz zz zz zz zz zz zz zz zz zz=>none)
   (fun zz ih q T n k c=>ih ((code,q) :: below) q T n k (c + 1))
   (fun zz zz zz zz zz zz zz zz=>none)
   (fun zz zz zz zz zz zz zz=>none)
   (fun zz zz zz zz zz zz zz zz zz zz zz=>none) t
end
noncomputable def endOf (call:CallT) (below:List (Code × Pos)) (x:Except Value Fin × Pos × BT × Nat × Nat × Nat):Option Ret:=match x with
 | (.ok (.done f),_,T',n',k',c')=>some (.ok f,T',n',k',c' + 1)
 | (.ok (.again c2),q',T',n',k',c')=>onB (quietC c2) (call c2 below q' T' n' k' (c' + 1))
 | (.error e,_,T',n',k',c')=>some (.error e,T',n',k',c' + 1)
noncomputable def callN (den:Code → Sem Fin) (p:Program) (w:World) (n₀:Nat) (ann:Option Value) (m:Nat):CallT:=
 Nat.rec (fun zz zz zz zz zz zz zz=>none) (fun zz ih cc below q T n k c=>onO (go ih p w n₀ ann cc below (den cc) q T n k c) (endOf ih below)) m
noncomputable def denQ:Code → Sem Fin:=PySem.W.Fast.tw11892475500146522536 PySem.W.Fast.tw14364793385576792824
theorem denQ_eq:denote treeTable=denQ:=by rw [PySem.W.Fast.te11892475500146522536,PySem.W.Fast.te14364793385576792824]; rfl
noncomputable def execsQ:List Stmt → Env → Sem Flow:=PySem.W.Fast.tw12563942051412417395
theorem execsQ_eq:execs=execsQ:=PySem.W.Fast.te12563942051412417395
noncomputable def St (T:BT) (n k:Nat) (d:Drawn) (os:OsState):Shared:=⟨absHeap T n {},Array.mk [],d,k,os⟩
section
variable {p:Program} {w:World} {n₀:Nat} {ann:Option Value} {d:Drawn} {os:OsState}
noncomputable def HN (stack:List Frame):Prop:=topHandled stack=none ∧ splitAtGen stack=none
theorem HN.ret {stack:List Frame} (h:HN stack) {k g l c p kp}:HN (.ret k none g l c p kp :: stack):=by
 refine ⟨?_,?_⟩
 ·have:=h.1; simpa only [topHandled,topHandled.go] using this
 ·show (splitAtGen stack).map _=none; rw [h.2]; rfl
noncomputable def CallOk (p:Program) (w:World) (n₀:Nat) (ann:Option Value) (d:Drawn) (os:OsState) (call:CallT):Prop:=
 ∀ cc below q T n k c (x:Ret),call cc below q T n k c=some x → ∃ e,x.2.2.2.2=c + e ∧
  ∀ kk g l code pos kept stack,(code,pos) :: stack.map Frame.where_=below → HN stack → ∀ N res,
   topRun treeTable p w n₀ ann N (St x.2.1 x.2.2.1 x.2.2.2.1 d os) ⟨kk x.1,code,pos,stack⟩=some res →
   topRun treeTable p w n₀ ann (e + N) (St T n k d os) ⟨denote treeTable cc,cc,q,.ret kk none g l code pos kept :: stack⟩=some res
theorem run_one {N:Nat} {s s' res:Shared} {t t':Thread} (ht:through t=false) (hk:stepOk n₀ ann t=true) (hs:step (denote treeTable) p w s t=.go s' t')
  (h:topRun treeTable p w n₀ ann N s' t'=some res):topRun treeTable p w n₀ ann (N + 1) s t=some res:=by
 unfold topRun
 rw [ht]
 simp only [hk,hs,h]
theorem run_one' {N e:Nat} {s s' res:Shared} {t t':Thread} (ht:through t=false) (hk:stepOk n₀ ann t=true) (hs:step (denote treeTable) p w s t=.go s' t')
  (h:topRun treeTable p w n₀ ann (e + N) s' t'=some res):topRun treeTable p w n₀ ann ((e + 1) + N) s t=some res:=by
 rw [Nat.add_right_comm e 1 N]
 exact run_one ht hk hs h
noncomputable def endT {α:Type} (K:α → Sem Fin) (H:Value → Sem Fin) (r:Except Value α):Sem Fin:=match r with
 | .ok a=>K a
 | .error e=>H e
noncomputable def Lands (p:Program) (w:World) (n₀:Nat) (ann:Option Value) (d:Drawn) (os:OsState) (code:Code) (below:List (Code × Pos)) {α:Type} (t:Sem α) (q:Pos) (T:BT) (n k c:Nat) (x:Except Value α × Pos × BT × Nat × Nat × Nat):Prop:=
 ∃ e,x.2.2.2.2.2=c + e ∧ ∀ (K:α → Sem Fin) (H:Value → Sem Fin) gd lv stack,stack.map Frame.where_=below → HN stack → ∀ N res,
   topRun treeTable p w n₀ ann N (St x.2.2.1 x.2.2.2.1 x.2.2.2.2.1 d os) ⟨endT K H x.1,code,x.2.1,stack⟩=some res →
   topRun treeTable p w n₀ ann (e + N) (St T n k d os) ⟨t.wrap K H gd lv,code,q,stack⟩=some res
theorem Lands.one {code:Code} {below:List (Code × Pos)} {α:Type} {t t1:Sem α} {q q1:Pos} {T T1:BT} {n n1 k k1 c:Nat} {x:Except Value α × Pos × BT × Nat × Nat × Nat} (i:Lands p w n₀ ann d os code below t1 q1 T1 n1 k1 (c + 1) x)
  (ht:∀ (K:α → Sem Fin) (H:Value → Sem Fin) gd lv stack,through ⟨t.wrap K H gd lv,code,q,stack⟩=false)
  (hk:∀ (K:α → Sem Fin) (H:Value → Sem Fin) gd lv stack,stepOk n₀ ann ⟨t.wrap K H gd lv,code,q,stack⟩=true)
  (hs:∀ (K:α → Sem Fin) (H:Value → Sem Fin) gd lv stack,stack.map Frame.where_=below → HN stack → step (denote treeTable) p w (St T n k d os) ⟨t.wrap K H gd lv,code,q,stack⟩=.go (St T1 n1 k1 d os) ⟨t1.wrap K H gd lv,code,q1,stack⟩) :
  Lands p w n₀ ann d os code below t q T n k c x:=
 let ⟨e,he,hr⟩:=i
 ⟨e + 1,he.trans (Nat.add_right_comm c 1 e),fun K H gd lv stack hb hn N res h=>run_one' (ht K H gd lv stack) (hk K H gd lv stack) (hs K H gd lv stack hb hn) (hr K H gd lv stack hb hn N res h)⟩
theorem step_load {h:Heap} {g:Array GenState} {k:Nat} {a:Addr} {part:Option Value} {y:Obj → Sem Fin} {code:Code} {q:Pos} {stack:List Frame} {o:Obj} (e:h.get? a=some o):step (denote treeTable) p w ⟨h,g,d,k,os⟩ ⟨.load a part y,code,q,stack⟩=.go ⟨h,g,d,k,os⟩ ⟨y o,code,q,stack⟩:=by
 simp only [step,e]
theorem step_update {h:Heap} {g:Array GenState} {k:Nat} {a:Addr} {part:Option Value} {f:Obj → Obj} {y:Unit → Sem Fin} {code:Code} {q:Pos} {stack:List Frame} {o:Obj} (e:h.get? a=some o):step (denote treeTable) p w ⟨h,g,d,k,os⟩ ⟨.update a part f y,code,q,stack⟩=.go ⟨h.update a f,g,d,k,os⟩ ⟨y (),code,q,stack⟩:=by
 simp only [step,e,Option.isSome_some,if_true]
theorem step_alloc {h:Heap} {g:Array GenState} {k n:Nat} {x:Obj} {y:Addr → Sem Fin} {code:Code} {q:Pos} {stack:List Frame} (e:h.objs.size=n):step (denote treeTable) p w ⟨h,g,d,k,os⟩ ⟨.alloc x y,code,q,stack⟩=.go ⟨h.push x,g,d,k,os⟩ ⟨y n,code,q,stack⟩:=by
 subst e; rfl
theorem go_sound {call:CallT} (hc:CallOk p w n₀ ann d os call) {code:Code} {below:List (Code × Pos)} {α:Type} (t:Sem α) :
  ∀ q T n k c x,go call p w n₀ ann code below t q T n k c=some x → Lands p w n₀ ann d os code below t q T n k c x:=by
 induction t with
 | pure a=>
  intro q T n k c x h
  cases h
  exact ⟨0,rfl,fun K H gd lv stack hb hn N res h=>by rw [Nat.zero_add]; exact h⟩
 | raise e=>
  intro q T n k c x h
  cases h
  exact ⟨0,rfl,fun K H gd lv stack hb hn N res h=>by rw [Nat.zero_add]; exact h⟩
 | rule z y ih=>exact fun q T n k c x h=>(ih () _ _ _ _ _ _ h).one (fun zz zz zz zz zz=>Bool.and_false _) (fun zz zz zz zz zz=>rfl) (fun zz zz zz zz zz zz zz=>rfl)
 | «at» z y ih=>exact fun q T n k c x h=>(ih () _ _ _ _ _ _ h).one (fun zz zz zz zz zz=>Bool.and_false _) (fun zz zz zz zz zz=>rfl) (fun zz zz zz zz zz zz zz=>rfl)
 | point z y ih=>exact fun q T n k c x h=>(ih () _ _ _ _ _ _ h).one (fun zz zz zz zz zz=>Bool.and_false _) (fun zz zz zz zz zz=>rfl) (fun zz zz zz zz zz zz zz=>rfl)
 | fresh y ih=>exact fun q T n k c x h=>(ih k _ _ _ _ _ _ h).one (fun zz zz zz zz zz=>Bool.and_false _) (fun zz zz zz zz zz=>rfl) (fun zz zz zz zz zz zz zz=>rfl)
 | ask y ih=>exact fun q T n k c x h=>(ih _ _ _ _ _ _ _ h).one (fun zz zz zz zz zz=>Bool.and_false _) (fun zz zz zz zz zz=>rfl) (fun zz zz zz zz zz zz zz=>rfl)
 | stack y ih=>
  exact fun q T n k c x h=>(ih _ _ _ _ _ _ _ h).one (fun zz zz zz zz zz=>Bool.and_false _) (fun zz zz zz zz zz=>rfl)
   (fun K H gd lv stack hb zz=>congrArg (fun b=>Step.go (St T n k d os) ⟨(y ((code,q) :: b)).wrap K H gd lv,code,q,stack⟩) hb)
 | load a part y ih=>
  intro q T n k c x h
  obtain ⟨e1,h⟩:=onB_some h
  obtain ⟨o,e2,h⟩:=onO_some h
  obtain ⟨o',e3,h⟩:=onO_some h
  refine (ih _ _ _ _ _ _ _ h).one (fun zz zz zz zz zz=>Bool.and_false _) (fun zz zz zz zz zz=>rfl) (fun K H gd lv stack zz zz=>?_)
  exact step_load ((abs_get (ble_of e1) e2).trans e3)
 | update a part f y ih=>
  intro q T n k c x h
  obtain ⟨e0,h⟩:=onB_some h
  obtain ⟨e1,h⟩:=onB_some h
  obtain ⟨o,e2,h⟩:=onO_some h
  obtain ⟨o',e3,h⟩:=onO_some h
  refine (ih _ _ _ _ _ _ _ h).one (fun zz zz zz zz zz=>Bool.and_false _) (fun zz zz zz zz zz=>?_) (fun K H gd lv stack zz zz=>?_)
  ·show (_ && mayUpd n₀ ann a)=true
   rw [e0]; rfl
  ·show step (denote treeTable) p w ⟨absHeap T n {},_,_,_,_⟩ ⟨.update a part f _,code,q,stack⟩=.go ⟨absHeap (T.set a f) n {},_,_,_,_⟩ _
   rw [absHeap_set e2]
   exact step_update ((abs_get (ble_of e1) e2).trans e3)
 | alloc o y ih=>
  intro q T n k c x h
  obtain ⟨e1,h⟩:=onB_some h
  refine (ih _ _ _ _ _ _ _ h).one (fun zz zz zz zz zz=>Bool.and_false _) (fun zz zz zz zz zz=>rfl) (fun K H gd lv stack zz zz=>?_)
  show step (denote treeTable) p w ⟨absHeap T n {},_,_,_,_⟩ ⟨.alloc o _,code,q,stack⟩=.go ⟨absHeap (T.ins n o) (n + 1) {},_,_,_,_⟩ _
  rw [absHeap_ins e1]
  exact step_alloc (absHeap_size ..)
 | loadIfAlive a y ih=>
  intro q T n k c x h
  have h:(match Nat.blt a n with | true=>onO (T.get a) fun o=>go call p w n₀ ann code below (y (alive o)) q T n k (c + 1) | false=>go call p w n₀ ann code below (y none) q T n k (c + 1))=some x:=h
  cases e1:Nat.blt a n with
  | false=>
   rw [e1] at h
   refine (ih _ _ _ _ _ _ _ h).one (fun zz zz zz zz zz=>Bool.and_false _) (fun zz zz zz zz zz=>rfl) (fun K H gd lv stack zz zz=>?_)
   exact congrArg (fun b=>Step.go (St T n k d os) ⟨(y b).wrap K H gd lv,code,q,stack⟩) (abs_get_none (ble_no e1))
  | true=>
   rw [e1] at h
   obtain ⟨o,e2,h⟩:=onO_some h
   refine (ih _ _ _ _ _ _ _ h).one (fun zz zz zz zz zz=>Bool.and_false _) (fun zz zz zz zz zz=>rfl) (fun K H gd lv stack zz zz=>?_)
   exact congrArg (fun b=>Step.go (St T n k d os) ⟨(y b).wrap K H gd lv,code,q,stack⟩) (abs_get (ble_of e1) e2)
 | handled own y ih=>
  refine fun q T n k c x h=>(ih _ _ _ _ _ _ _ h).one (fun zz zz zz zz zz=>Bool.and_false _) (fun zz zz zz zz zz=>rfl) (fun K H gd lv stack zz hn=>?_)
  have:topHandled (if own then (match splitAtGen stack with | some (fs,_,_)=>fs | none=>stack) else stack)=none:=by
   rw [hn.2]; cases own <;> exact hn.1
  exact congrArg (fun x=>Step.go (St T n k d os) ⟨(y x).wrap K H gd lv,code,q,stack⟩) this
 | call cc hd g l y ih=>
  intro q T n k c x h
  cases hd with
  | some _=>cases h
  | none=>
  obtain ⟨⟨r1,T1,n1,k1,c1⟩,e1,h⟩:=onO_some h
  obtain ⟨e,he,hr⟩:=ih _ _ _ _ _ _ _ h
  obtain ⟨e',he',hr'⟩:=hc _ _ _ _ _ _ _ _ e1
  refine ⟨e' + e + 1,he.trans ((congrArg (· + e) he').trans ((Nat.add_assoc (c + 1) e' e).trans (Nat.add_right_comm c 1 (e' + e)))),fun K H gd lv stack hb hn N res h=>?_⟩
  refine run_one' (Bool.and_false _) rfl (by rfl) ?_
  rw [Nat.add_assoc e' e N]
  exact hr' _ _ _ _ _ _ _ (by rw [hb]) hn _ _ (hr K H gd lv stack hb hn N res h)
 | _=>intro q T n k c x h; cases h
theorem wrap_id {α:Type} (t:Sem α):t.wrap .pure .raise id id=t:=by
 induction t <;> first | rfl | exact congrArg _ (funext ‹_›)
theorem calm_again {c2 code:Code} {pos:Pos} {stack:List Frame} (h:quietC c2=true):stepOk n₀ ann ⟨.pure (.again c2),code,pos,stack⟩=true:=by
 cases c2 with
 | builtin id args=>
  have h:(!id.startsWith "lifetime.")=true:=h
  show (((!id.startsWith "lifetime." || _) && true && true) && true)=true
  rw [h]
  rfl
 | _=>rfl
theorem callN_ok:∀ m,CallOk p w n₀ ann d os (callN (denote treeTable) p w n₀ ann m):=by
 intro m
 induction m with
 | zero=>exact fun cc below q T n k c x h=>nomatch h
 | succ m ih=>
  intro cc below q T n k c x h
  obtain ⟨⟨r1,q1,T1,n1,k1,c1⟩,e1,h⟩:=onO_some h
  obtain ⟨e,he,hr⟩:=go_sound ih _ _ _ _ _ _ _ e1
  have he:c1=c + e:=he
  have key:∀ {kk g l code pos kept stack N M res},(code,pos) :: stack.map Frame.where_=below → HN stack → M=e + N →
    topRun treeTable p w n₀ ann N (St T1 n1 k1 d os) ⟨endT .pure .raise r1,cc,q1,.ret kk none g l code pos kept :: stack⟩=some res →
    topRun treeTable p w n₀ ann M (St T n k d os) ⟨denote treeTable cc,cc,q,.ret kk none g l code pos kept :: stack⟩=some res:=fun {kk g l code pos kept stack N M res} hb hn hm hh=>by
   have:=hr .pure .raise id id (.ret kk none g l code pos kept :: stack) (by rw [List.map_cons]; exact hb) hn.ret N res hh
   rw [wrap_id] at this
   rw [hm]
   exact this
  cases r1 with
  | error z=>
   cases h
   exact ⟨e + 1,congrArg (· + 1) he,fun kk g l code pos kept stack hb hn N res hh=>key hb hn (Nat.add_right_comm e 1 N) (run_one rfl rfl rfl hh)⟩
  | ok fin=>
   cases fin with
   | done f=>
    cases h
    exact ⟨e + 1,congrArg (· + 1) he,fun kk g l code pos kept stack hb hn N res hh=>key hb hn (Nat.add_right_comm e 1 N) (run_one rfl rfl rfl hh)⟩
   | again c2=>
    obtain ⟨e2,h⟩:=onB_some h
    obtain ⟨e',he',hr'⟩:=ih _ _ _ _ _ _ _ _ h
    exact ⟨e + 1 + e',he'.trans (by subst he; simp only [Nat.add_assoc]),fun kk g l code pos kept stack hb hn N res hh=>key hb hn ((Nat.add_assoc (e + 1) e' N).trans (Nat.add_right_comm e 1 (e' + N)))
     (run_one rfl (calm_again e2) (step_again (den:=denote treeTable)) (hr' kk g l code pos _ stack hb hn N res hh))⟩
end
section
variable {call:CallT} {p:Program} {w:World} {n₀:Nat} {ann:Option Value} {code:Code} {below:List (Code × Pos)} {α β:Type}
noncomputable def thenR (r:Res (Except Value α)) (f:α → Pos → BT → Nat → Nat → Nat → Res (Except Value β)):Res (Except Value β):=match r with
 | some (.ok a,q,T,n,k,c)=>f a q T n k c
 | some (.error e,q,T,n,k,c)=>some (.error e,q,T,n,k,c)
 | none=>none
theorem thenR_onB {b:Bool} {x:Res (Except Value α)} {y:Res (Except Value β)} {f:α → Pos → BT → Nat → Nat → Nat → Res (Except Value β)} (h:y=thenR x f):onB b y=thenR (onB b x) f:=by
 cases b
 ·rfl
 ·exact h
theorem thenR_onO {δ:Type} {o:Option δ} {x:δ → Res (Except Value α)} {y:δ → Res (Except Value β)} {f:α → Pos → BT → Nat → Nat → Nat → Res (Except Value β)} (h:∀ z,y z=thenR (x z) f):onO o y=thenR (onO o x) f:=by
 cases o with
 | none=>rfl
 | some z=>exact h z
theorem go_pure (a:α) (q:Pos) (T:BT) (n k c:Nat):go call p w n₀ ann code below (.pure a) q T n k c=some (.ok a,q,T,n,k,c):=rfl
theorem go_bind (t:Sem α) (f:α → Sem β):∀ (q:Pos) (T:BT) (n k c:Nat),go call p w n₀ ann code below (t.bind f) q T n k c=thenR (go call p w n₀ ann code below t q T n k c) fun a=>go call p w n₀ ann code below (f a):=by
 induction t with
 | rule x y ih=>exact fun q T n k c=>ih () q T n k (c + 1)
 | «at» x y ih=>exact fun q T n k c=>ih () x T n k (c + 1)
 | point x y ih=>exact fun q T n k c=>ih () q T n k (c + 1)
 | fresh y ih=>exact fun q T n k c=>ih k q T n (k + 1) (c + 1)
 | ask y ih=>exact fun q T n k c=>ih _ q T n k (c + 1)
 | stack y ih=>exact fun q T n k c=>ih _ q T n k (c + 1)
 | load a part y ih=>exact fun q T n k c=>thenR_onB (thenR_onO fun zz=>thenR_onO fun zz=>ih _ _ _ _ _ _)
 | update a part g y ih=>exact fun q T n k c=>thenR_onB (thenR_onB (thenR_onO fun zz=>thenR_onO fun zz=>ih _ _ _ _ _ _))
 | alloc o y ih=>exact fun q T n k c=>thenR_onB (ih _ _ _ _ _ _)
 | loadIfAlive a y ih=>
  intro q T n k c
  show (match Nat.blt a n with | true=>onO (T.get a) fun o=>go call p w n₀ ann code below ((y (alive o)).bind f) q T n k (c + 1) | false=>go call p w n₀ ann code below ((y none).bind f) q T n k (c + 1))
   = thenR (match Nat.blt a n with | true=>onO (T.get a) fun o=>go call p w n₀ ann code below (y (alive o)) q T n k (c + 1) | false=>go call p w n₀ ann code below (y none) q T n k (c + 1)) _
  cases Nat.blt a n with
  | false=>exact ih _ _ _ _ _ _
  | true=>exact thenR_onO fun zz=>ih _ _ _ _ _ _
 | handled own y ih=>exact fun q T n k c=>ih _ q T n k (c + 1)
 | call cc hd g l y ih=>
  cases hd with
  | some _=>exact fun q T n k c=>rfl
  | none=>exact fun q T n k c=>thenR_onO fun zz=>ih _ _ _ _ _ _
 | _=>exact fun q T n k c=>rfl
theorem go_bind' (t:Sem α) (f:α → Sem β) (q:Pos) (T:BT) (n k c:Nat):go call p w n₀ ann code below (t >>= f) q T n k c=thenR (go call p w n₀ ann code below t q T n k c) fun a=>go call p w n₀ ann code below (f a):=go_bind t f q T n k c
theorem onO_eq {δ γ:Type} {o:Option δ} {f g:δ → Option γ} (h:∀ y,f y=g y):onO o f=onO o g:=congrArg _ (funext h)
theorem go_keep (vs:List Value) (t:Sem α):∀ (q:Pos) (T:BT) (n k c:Nat),go call p w n₀ ann code below (t.keep vs) q T n k c=go call p w n₀ ann code below t q T n k c:=by
 induction t with
 | rule x y ih=>exact fun q T n k c=>ih () q T n k (c + 1)
 | «at» x y ih=>exact fun q T n k c=>ih () x T n k (c + 1)
 | point x y ih=>exact fun q T n k c=>ih () q T n k (c + 1)
 | fresh y ih=>exact fun q T n k c=>ih k q T n (k + 1) (c + 1)
 | ask y ih=>exact fun q T n k c=>ih _ q T n k (c + 1)
 | stack y ih=>exact fun q T n k c=>ih _ q T n k (c + 1)
 | load a part y ih=>exact fun q T n k c=>congrArg (onB _) (onO_eq fun zz=>onO_eq fun zz=>ih _ _ _ _ _ _)
 | update a part g y ih=>exact fun q T n k c=>congrArg (fun x=>onB _ (onB _ x)) (onO_eq fun zz=>onO_eq fun zz=>ih _ _ _ _ _ _)
 | alloc o y ih=>exact fun q T n k c=>congrArg (onB _) (ih _ _ _ _ _ _)
 | loadIfAlive a y ih=>
  intro q T n k c
  show (match Nat.blt a n with | true=>onO (T.get a) fun o=>go call p w n₀ ann code below ((y (alive o)).keep vs) q T n k (c + 1) | false=>go call p w n₀ ann code below ((y none).keep vs) q T n k (c + 1))
   = (match Nat.blt a n with | true=>onO (T.get a) fun o=>go call p w n₀ ann code below (y (alive o)) q T n k (c + 1) | false=>go call p w n₀ ann code below (y none) q T n k (c + 1))
  cases Nat.blt a n with
  | false=>exact ih _ _ _ _ _ _
  | true=>exact onO_eq fun zz=>ih _ _ _ _ _ _
 | handled own y ih=>exact fun q T n k c=>ih _ q T n k (c + 1)
 | call cc hd g l y ih=>
  cases hd with
  | some _=>exact fun q T n k c=>rfl
  | none=>exact fun q T n k c=>onO_eq fun zz=>ih _ _ _ _ _ _
 | _=>exact fun q T n k c=>rfl
theorem go_holding (vs:List Value) (t:Sem α) (q:Pos) (T:BT) (n k c:Nat):go call p w n₀ ann code below (holding vs t) q T n k c=go call p w n₀ ann code below t q T n k c:=by
 unfold holding
 split
 ·rfl
 ·exact go_keep _ _ _ _ _ _ _
theorem go_onRaise {t:Sem α} (h:Value → Sem Unit):∀ {q:Pos} {T:BT} {n k c:Nat} {x:Except Value α × Pos × BT × Nat × Nat × Nat} {a:α},go call p w n₀ ann code below t q T n k c=some x → x.1=.ok a →
  go call p w n₀ ann code below (t.onRaise h) q T n k c=some x:=by
 induction t with
 | pure a=>exact fun e zz=>e
 | raise e=>exact fun e g=>by cases e; cases g
 | rule x y ih=>exact fun e=>ih () e
 | «at» x y ih=>exact fun e=>ih () e
 | point x y ih=>exact fun e=>ih () e
 | fresh y ih=>exact fun e=>ih _ e
 | ask y ih=>exact fun e=>ih _ e
 | stack y ih=>exact fun e=>ih _ e
 | load x part y ih=>exact fun e g=>let ⟨e1,e⟩:=onB_some e; let ⟨_,e2,e⟩:=onO_some e; let ⟨_,e3,e⟩:=onO_some e; onB_of e1 (onO_of e2 (onO_of e3 (ih _ e g)))
 | update x part f y ih=>exact fun e g=>let ⟨e0,e⟩:=onB_some e; let ⟨e1,e⟩:=onB_some e; let ⟨_,e2,e⟩:=onO_some e; let ⟨_,e3,e⟩:=onO_some e; onB_of e0 (onB_of e1 (onO_of e2 (onO_of e3 (ih _ e g))))
 | alloc o y ih=>exact fun e g=>let ⟨e1,e⟩:=onB_some e; onB_of e1 (ih _ e g)
 | loadIfAlive x y ih=>
  intro q T n k c z a e g
  have e:(match Nat.blt x n with | true=>onO (T.get x) fun o=>go call p w n₀ ann code below (y (alive o)) q T n k (c + 1) | false=>go call p w n₀ ann code below (y none) q T n k (c + 1))=some z:=e
  show (match Nat.blt x n with | true=>onO (T.get x) fun o=>go call p w n₀ ann code below ((y (alive o)).onRaise h) q T n k (c + 1) | false=>go call p w n₀ ann code below ((y none).onRaise h) q T n k (c + 1))=some z
  cases e1:Nat.blt x n with
  | false=>rw [e1] at e; exact ih _ e g
  | true=>rw [e1] at e; exact let ⟨_,e2,e⟩:=onO_some e; onO_of e2 (ih _ e g)
 | handled own y ih=>exact fun e=>ih _ e
 | call cc hd g l y ih=>
  cases hd with
  | some _=>exact fun e=>nomatch e
  | none=>exact fun e g=>let ⟨_,e2,e⟩:=onO_some e; onO_of e2 (ih _ e g)
 | _=>exact fun e=>nomatch e
theorem go_onRaise_ok {t:Sem α} (h:Value → Sem Unit) {q:Pos} {T:BT} {n k c:Nat} {a:α} {x:Pos × BT × Nat × Nat × Nat} (e:go call p w n₀ ann code below t q T n k c=some (.ok a,x)) :
  go call p w n₀ ann code below (t.onRaise h) q T n k c=some (.ok a,x):=go_onRaise h e rfl
noncomputable def more {α:Type} (e:Nat) (x:α × Pos × BT × Nat × Nat × Nat):α × Pos × BT × Nat × Nat × Nat:=(x.1,x.2.1,x.2.2.1,x.2.2.2.1,x.2.2.2.2.1,e + x.2.2.2.2.2)
noncomputable def ShiftOk (call:CallT):Prop:=∀ {cc below q T n k c} {x:Ret} (e:Nat),call cc below q T n k c=some x → call cc below q T n k (e + c)=some (x.1,x.2.1,x.2.2.1,x.2.2.2.1,e + x.2.2.2.2)
theorem go_more (hc:ShiftOk call) (t:Sem α):∀ {q:Pos} {T:BT} {n k c:Nat} {x:Except Value α × Pos × BT × Nat × Nat × Nat} (e:Nat),go call p w n₀ ann code below t q T n k c=some x →
  go call p w n₀ ann code below t q T n k (e + c)=some (more e x):=by
 induction t with
 | pure a=>exact fun e h=>by cases h; rfl
 | raise x=>exact fun e h=>by cases h; rfl
 | rule x y ih=>exact fun e h=>ih () e h
 | «at» x y ih=>exact fun e h=>ih () e h
 | point x y ih=>exact fun e h=>ih () e h
 | fresh y ih=>exact fun e h=>ih _ e h
 | ask y ih=>exact fun e h=>ih _ e h
 | stack y ih=>exact fun e h=>ih _ e h
 | load x part y ih=>exact fun d e=>let ⟨e1,e⟩:=onB_some e; let ⟨_,e2,e⟩:=onO_some e; let ⟨_,e3,e⟩:=onO_some e; onB_of e1 (onO_of e2 (onO_of e3 (ih _ d e)))
 | update x part f y ih=>exact fun d e=>let ⟨e0,e⟩:=onB_some e; let ⟨e1,e⟩:=onB_some e; let ⟨_,e2,e⟩:=onO_some e; let ⟨_,e3,e⟩:=onO_some e; onB_of e0 (onB_of e1 (onO_of e2 (onO_of e3 (ih _ d e))))
 | alloc o y ih=>exact fun d e=>let ⟨e1,e⟩:=onB_some e; onB_of e1 (ih _ d e)
 | loadIfAlive x y ih=>
  intro q T n k c z d e
  have e:(match Nat.blt x n with | true=>onO (T.get x) fun o=>go call p w n₀ ann code below (y (alive o)) q T n k (c + 1) | false=>go call p w n₀ ann code below (y none) q T n k (c + 1))=some z:=e
  show (match Nat.blt x n with | true=>onO (T.get x) fun o=>go call p w n₀ ann code below (y (alive o)) q T n k (d + c + 1) | false=>go call p w n₀ ann code below (y none) q T n k (d + c + 1))=some (more d z)
  cases e1:Nat.blt x n with
  | false=>rw [e1] at e; exact ih _ d e
  | true=>rw [e1] at e; exact let ⟨_,e2,e⟩:=onO_some e; onO_of e2 (ih _ d e)
 | handled own y ih=>exact fun e h=>ih _ e h
 | call cc hd g l y ih=>
  cases hd with
  | some _=>exact fun zz e=>nomatch e
  | none=>exact fun d e=>let ⟨_,e2,e⟩:=onO_some e; onO_of (hc d e2) (ih _ d e)
 | _=>exact fun zz e=>nomatch e
theorem go_shift (hc:ShiftOk call) (t:Sem α) {q:Pos} {T:BT} {n k c:Nat} {a:Except Value α} {q':Pos} {T':BT} {n' k' c':Nat} (e:Nat) (h:go call p w n₀ ann code below t q T n k c=some (a,q',T',n',k',c')) :
  go call p w n₀ ann code below t q T n k (e + c)=some (a,q',T',n',k',e + c'):=go_more hc t e h
theorem callN_shift {den:Code → Sem Fin}:∀ m,ShiftOk (callN den p w n₀ ann m):=by
 intro m
 induction m with
 | zero=>exact fun zz h=>nomatch h
 | succ m ih=>
  intro cc below q T n k c x e h
  obtain ⟨⟨r1,q1,T1,n1,k1,c1⟩,e1,h⟩:=onO_some h
  refine onO_of (go_more ih _ e e1) ?_
  match r1,h with
  | .error _,h=>cases h; rfl
  | .ok (.done _),h=>cases h; rfl
  | .ok (.again _),h=>exact let ⟨e2,h⟩:=onB_some h; onB_of e2 (ih e h)
end
section
variable {call:CallT} {p:Program} {w:World} {n₀:Nat} {ann:Option Value} {code:Code} {below:List (Code × Pos)} {α β:Type}
noncomputable def GE (call:CallT) (p:Program) (w:World) (n₀:Nat) (ann:Option Value) (code:Code) (below:List (Code × Pos)) {α:Type} (t:Sem α) (T:BT) (n k:Nat) (a:α) (T':BT) (n' k' B:Nat):Prop:=
 ∀ q c,∃ e q',e ≤ B ∧ go call p w n₀ ann code below t q T n k c=some (.ok a,q',T',n',k',c + e)
theorem GE.bind {t:Sem α} {f:α → Sem β} {T n k a T1 n1 k1 B1 b T2 n2 k2 B2} (h:GE call p w n₀ ann code below t T n k a T1 n1 k1 B1) (g:GE call p w n₀ ann code below (f a) T1 n1 k1 b T2 n2 k2 B2):GE call p w n₀ ann code below (t >>= f) T n k b T2 n2 k2 (B1 + B2):=fun q c=>by
 obtain ⟨e1,q1,h1,h2⟩:=h q c
 obtain ⟨e2,q2,g1,g2⟩:=g q1 (c + e1)
 exact ⟨e1 + e2,q2,by exact Nat.add_le_add h1 g1,by rw [go_bind',h2]; show go _ _ _ _ _ _ _ _ _ _ _ _ _=_; rw [g2,Nat.add_assoc]⟩
theorem GE.pure {a:α} {T n k}:GE call p w n₀ ann code below (pure a:Sem α) T n k a T n k 0:=fun q c=>⟨0,q,Nat.le_refl _,rfl⟩
theorem GE.mono {t:Sem α} {T n k a T' n' k' B B'} (h:GE call p w n₀ ann code below t T n k a T' n' k' B) (l:B ≤ B'):GE call p w n₀ ann code below t T n k a T' n' k' B':=fun q c=>let ⟨e,q',h1,h2⟩:=h q c; ⟨e,q',Nat.le_trans h1 l,h2⟩
theorem GE.rule {x:String} {T n k}:GE call p w n₀ ann code below (rule x) T n k () T n k 1:=fun q c=>⟨1,q,Nat.le_refl _,rfl⟩
theorem GE.standAt {x:Pos} {T n k}:GE call p w n₀ ann code below (standAt x) T n k () T n k 1:=fun q c=>⟨1,x,Nat.le_refl _,rfl⟩
theorem GE.fresh {T n k}:GE call p w n₀ ann code below fresh T n k k T n (k + 1) 1:=fun q c=>⟨1,q,Nat.le_refl _,rfl⟩
theorem GE.loadPart {d:Addr} {part:Option Value} {o:Obj} {T n k} (g:T.get d=some o) (al:alive o=some o) (l:d < n):GE call p w n₀ ann code below (loadPart d part) T n k o T n k 1:=fun q c=>⟨1,q,Nat.le_refl _,onB_of (Nat.ble_eq_true_of_le l) (onO_of g (onO_of al rfl))⟩
theorem GE.load {d:Addr} {o:Obj} {T n k} (g:T.get d=some o) (al:alive o=some o) (l:d < n):GE call p w n₀ ann code below (load d) T n k o T n k 1:=GE.loadPart g al l
theorem GE.updatePart {d:Addr} {part:Option Value} {o:Obj} {f:Obj → Obj} {T n k} (m:mayUpd n₀ ann d=true) (g:T.get d=some o) (al:alive o=some o) (l:d < n):GE call p w n₀ ann code below (updatePart d part f) T n k () (T.set d f) n k 1:=fun q c=>⟨1,q,Nat.le_refl _,onB_of m (onB_of (Nat.ble_eq_true_of_le l) (onO_of g (onO_of al rfl)))⟩
theorem GE.alloc {o:Obj} {T n k} (g:((T.ins n o).get n).isSome=true):GE call p w n₀ ann code below (alloc o) T n k n (T.ins n o) (n + 1) k 1:=fun q c=>⟨1,q,Nat.le_refl _,onB_of g rfl⟩
theorem GE.holding {vs:List Value} {t:Sem α} {T n k a T' n' k' B} (h:GE call p w n₀ ann code below t T n k a T' n' k' B):GE call p w n₀ ann code below (holding vs t) T n k a T' n' k' B:=fun q c=>let ⟨e,q',h1,h2⟩:=h q c; ⟨e,q',h1,(go_holding ..).trans h2⟩
theorem GE.onRaise {x:Value → Sem Unit} {t:Sem α} {T n k a T' n' k' B} (h:GE call p w n₀ ann code below t T n k a T' n' k' B):GE call p w n₀ ann code below (t.onRaise x) T n k a T' n' k' B:=fun q c=>let ⟨e,q',h1,h2⟩:=h q c; ⟨e,q',h1,go_onRaise_ok x h2⟩
theorem GE.of {t:Sem α} {T n k a T' n' k' B} (hc:ShiftOk call) (h:∀ q,go call p w n₀ ann code below t q T n k 0=some (.ok a,q,T',n',k',B)):GE call p w n₀ ann code below t T n k a T' n' k' B:=fun q c=>⟨B,q,Nat.le_refl _,go_shift hc t c (h q)⟩
theorem GE.forNil {γ:Type} {b:β} {f:γ → β → Sem (ForInStep β)} {T n k}:GE call p w n₀ ann code below (forIn ([]:List γ) b f) T n k b T n k 0:=GE.pure
theorem GE.forCons {γ:Type} {x:γ} {l:List γ} {b b1 b2:β} {f:γ → β → Sem (ForInStep β)} {T n k T1 n1 k1 B1 T2 n2 k2 B2} (h:GE call p w n₀ ann code below (f x b) T n k (.yield b1) T1 n1 k1 B1) (g:GE call p w n₀ ann code below (forIn l b1 f) T1 n1 k1 b2 T2 n2 k2 B2):GE call p w n₀ ann code below (forIn (x :: l) b f) T n k b2 T2 n2 k2 (B1 + B2):=by
 rw [List.forIn_cons]
 exact GE.bind h g
noncomputable abbrev dObj (es:List DictEntry) (ep:Nat):Obj:=⟨.type "dict",none,.dict es.toArray ep,#[]⟩
theorem alive_d (es:List DictEntry) (ep:Nat):alive (dObj es ep)=some (dObj es ep):=rfl
section
variable {T:BT} {d:Addr} {es:List DictEntry} {ep n k:Nat} {part:Option Value}
theorem GE.dictEntries (g:T.get d=some (dObj es ep)) (l:d < n):GE call p w n₀ ann code below (dictEntries d part) T n k es.toArray T n k 1:=by
 unfold PySem.dictEntries
 refine GE.bind (B1:=1) (B2:=0) (GE.loadPart g rfl l) ?_
 exact GE.pure
theorem GE.dictEpoch (g:T.get d=some (dObj es ep)) (l:d < n):GE call p w n₀ ann code below (dictEpoch d part) T n k ep T n k 1:=by
 unfold PySem.dictEpoch
 refine GE.bind (B1:=1) (B2:=0) (GE.loadPart g rfl l) ?_
 exact GE.pure
theorem get_push (g:T.get d=some (dObj es ep)) (e:DictEntry):(T.set d (Obj.mapDictKeys (·.push e))).get d=some (dObj (es ++ [e]) (ep + 1)):=by
 rw [BT.get_set,if_pos rfl,g]
 show some (Obj.mapDictKeys (·.push e) (dObj es ep))=_
 simp only [Obj.mapDictKeys,List.push_toArray]
theorem GE.dictPush {e:DictEntry} (m:mayUpd n₀ ann d=true) (g:T.get d=some (dObj es ep)) (l:d < n) (hz:es.length < 100000) :
  GE call p w n₀ ann code below (updateDictKeys d (·.push e) part) T n k () (T.set d (Obj.mapDictKeys (·.push e))) n k 3:=by
 unfold PySem.updateDictKeys
 refine GE.bind (B1:=1) (B2:=2) (GE.loadPart g rfl l) ?_
 refine GE.bind (B1:=1) (B2:=1) (GE.updatePart m g rfl l) ?_
 unfold PySem.lookBehind
 refine GE.bind (B1:=1) (B2:=0) (GE.loadPart (get_push g e) rfl l) ?_
 dsimp only
 rw [pastItsLine_dict (by rw [List.size_toArray,List.length_append,List.length_singleton]; unfold sizeLine; exact Nat.lt_of_lt_of_le hz (by decide))]
 exact GE.pure
theorem places_none {h:Int} (hn:∀ e ∈ es,e.hash ≠ h):placesWithHash es.toArray.size (fun i=>es.toArray[i]?.map (·.hash)) h=[]:=by
 unfold placesWithHash
 rw [List.filter_eq_nil_iff]
 intro i _
 show ¬ (Option.map (fun x=>x.hash) es.toArray[i]? == some h)=true
 rw [List.getElem?_toArray]
 cases e:es[i]? with
 | none=>simp
 | some x=>
  have:=hn x (List.mem_of_getElem? e)
  simpa using this
theorem GE.dictFind {j:Int} {t:Tok} (g:T.get d=some (dObj es ep)) (l:d < n) (hn:∀ e ∈ es,e.hash ≠ j):GE call p w n₀ ann code below (dictFind d (.int j t) j) T n k none T n k 1:=by
 unfold PySem.dictFind
 refine GE.holding ?_
 refine GE.bind (B1:=1) (B2:=0) (GE.dictEntries g l) ?_
 dsimp only
 rw [places_none hn]
 exact GE.pure
theorem GE.dictSetHashed {j:Int} {t:Tok} {v:Value} (m:mayUpd n₀ ann d=true) (g:T.get d=some (dObj es ep)) (l:d < n) (hz:es.length < 100000) (hn:∀ e ∈ es,e.hash ≠ j) :
  GE call p w n₀ ann code below (dictSetHashed d (.int j t) j v) T n k () (T.set d (Obj.mapDictKeys (·.push ⟨j,.int j t,v⟩))) n k 5:=by
 unfold PySem.dictSetHashed
 refine GE.holding ?_
 refine GE.bind (B1:=1) (B2:=4) (GE.dictFind g l hn) ?_
 refine GE.bind (B1:=1) (B2:=3) GE.rule ?_
 exact GE.dictPush m g l hz
theorem GE.dictPut {j:Int} {t:Tok} {v:Value} (m:mayUpd n₀ ann d=true) (g:T.get d=some (dObj es ep)) (l:d < n) (hz:es.length < 100000) (hn:∀ e ∈ es,e.hash ≠ j) :
  GE call p w n₀ ann code below (dictPut d j (.int j t) v) T n k () (T.set d (Obj.mapDictKeys (·.push ⟨j,.int j t,v⟩))) n k 4:=by
 unfold PySem.dictPut
 refine GE.bind (B1:=1) (B2:=3) (GE.dictFind g l hn) ?_
 exact GE.dictPush m g l hz
end
end
section
variable {p:Program} {w:World} {n₀:Nat} {ann:Option Value} {code:Code} {below:List (Code × Pos)}
noncomputable abbrev cQ (p:Program) (w:World) (n₀:Nat) (ann:Option Value):CallT:=callN denQ p w n₀ ann 90
theorem hash_f {j:Int} {t:Tok} {q:Pos} {T:BT} {n k:Nat} (w:World):go (cQ p (w.withFollow "special-get-raises" false) n₀ ann) p (w.withFollow "special-get-raises" false) n₀ ann code below (pyHash (.int j t)) q T n k 0
  = go (cQ p (w.withFollow "special-get-raises" false) n₀ ann) p (w.withFollow "special-get-raises" false) n₀ ann code below (pyHashByItsType.reduced (PySem.rawHash j)) q T n (k + 1) 5:=by kernel_rfl
theorem hash_t {j:Int} {t:Tok} {q:Pos} {T:BT} {n k:Nat} (w:World):go (cQ p (w.withFollow "special-get-raises" true) n₀ ann) p (w.withFollow "special-get-raises" true) n₀ ann code below (pyHash (.int j t)) q T n k 0
  = go (cQ p (w.withFollow "special-get-raises" true) n₀ ann) p (w.withFollow "special-get-raises" true) n₀ ann code below (pyHashByItsType.reduced (PySem.rawHash j)) q T n (k + 1) 5:=by kernel_rfl
theorem hash_go {j:Int} {t:Tok} {q:Pos} {T:BT} {n k:Nat}:go (cQ p w n₀ ann) p w n₀ ann code below (pyHash (.int j t)) q T n k 0=go (cQ p w n₀ ann) p w n₀ ann code below (pyHashByItsType.reduced (PySem.rawHash j)) q T n (k + 1) 5:=
 byRow2 "special-get-raises" (P:=fun w=>go (cQ p w n₀ ann) p w n₀ ann code below (pyHash (.int j t)) q T n k 0=go (cQ p w n₀ ann) p w n₀ ann code below (pyHashByItsType.reduced (PySem.rawHash j)) q T n (k + 1) 5) hash_f hash_t w
theorem GE.pyHash {j:Int} {t:Tok} {T:BT} {n k:Nat} (h0:0 ≤ j) (h1:j < 2000000):GE (cQ p w n₀ ann) p w n₀ ann code below (pyHash (.int j t)) T n k j T n (k + 1) 5:=by
 refine GE.of (callN_shift _) fun q=>?_
 rw [hash_go]
 have e:PySem.rawHash j=j:=by
  unfold PySem.rawHash
  have:((j.natAbs:Nat):Int)=j:=by omega
  have h2:((j.natAbs:Int) % ((2 ^ 61 - 1:Nat):Int))=j:=by rw [this]; omega
  have hlt:¬ j < 0:=by exact Int.not_lt.mpr h0
  have hn:(j == -1)=false:=by rw [beq_eq_false_iff_ne]; exact Int.ne_of_gt h0
  simp only [h2,if_neg hlt,hn]
  rfl
 rw [e]
 unfold pyHashByItsType.reduced
 have c1:(decide (-(2 ^ 63:Int) ≤ j) && decide (j < 2 ^ 63))=true:=by rw [decide_eq_true (by exact Int.le_trans (by decide) h0),decide_eq_true (by exact Int.lt_of_lt_of_le h1 (by decide))]; rfl
 rw [if_pos c1]
 have:(j == -1)=false:=by rw [beq_eq_false_iff_ne]; exact Int.ne_of_gt h0
 rw [this]
 rfl
theorem sub_dict {q:Pos} {T:BT} {n k:Nat}:go (cQ p w n₀ ann) p w n₀ ann code below (isSubtype (.type "dict") (.type "dict")) q T n k 0=some (.ok true,q,T,n,k,0):=by kernel_rfl
theorem iter_dict {q:Pos} {T:BT} {n k:Nat}:go (cQ p w n₀ ann) p w n₀ ann code below (typeLookup (.type "dict") "__iter__") q T n k 0=some (.ok (some (.builtin "dict.__iter__")),q,T,n,k,0):=by kernel_rfl
end
theorem BT.set_set (f g:Obj → Obj):∀ (t:BT) (a:Nat),(t.set a f).set a g=t.set a fun o=>g (f o)
 | .nil,_=>rfl
 | .node v l r,a=>by
  rw [BT.set_node,BT.set_node]
  by_cases h:a=0
  ·simp only [if_pos h]; rw [BT.set_node,if_pos h]
  ·simp only [if_neg h]
   by_cases q:a % 2=1
   ·simp only [if_pos q]; rw [BT.set_node,if_neg h,if_pos q,BT.set_set f g l]
   ·simp only [if_neg q]; rw [BT.set_node,if_neg h,if_neg q,BT.set_set f g r]
theorem BT.set_at (f:Obj → Obj) (o:Obj):∀ (t:BT) (a:Nat),t.get a=some o → t.set a f=t.set a fun zz=>f o
 | .nil,_,_=>rfl
 | .node v l r,a,e=>by
  rw [BT.get_node] at e
  rw [BT.set_node,BT.set_node]
  by_cases h:a=0
  ·simp only [if_pos h] at e ⊢; cases e; rfl
  ·simp only [if_neg h] at e ⊢
   by_cases q:a % 2=1
   ·simp only [if_pos q] at e ⊢; rw [BT.set_at f o l _ e]
   ·simp only [if_neg q] at e ⊢; rw [BT.set_at f o r _ e]
theorem BT.set_same (o:Obj):∀ (t:BT) (a:Nat),t.get a=some o → t.set a (fun zz=>o)=t
 | .nil,_,_=>rfl
 | .node v l r,a,e=>by
  rw [BT.get_node] at e
  rw [BT.set_node]
  by_cases h:a=0
  ·simp only [if_pos h] at e ⊢; cases e; rfl
  ·simp only [if_neg h] at e ⊢
   by_cases q:a % 2=1
   ·simp only [if_pos q] at e ⊢; rw [BT.set_same o l _ e]
   ·simp only [if_neg q] at e ⊢; rw [BT.set_same o r _ e]
theorem BT.ins_set (f:Obj → Obj) (o:Obj):∀ (t:BT) (a:Nat),((t.ins a o).get a).isSome=true → (t.ins a o).set a f=t.ins a (f o)
 | .nil,a,e=>by
  have e1:(BT.nil.ins a o)=.node o .nil .nil:=rfl
  have e2:(BT.nil.ins a (f o))=.node (f o) .nil .nil:=rfl
  rw [e1,BT.get_node] at e
  rw [e1,e2,BT.set_node]
  by_cases h:a=0
  ·rw [if_pos h]
  ·exfalso; revert e; rw [if_neg h]; by_cases q:a % 2=1 <;> simp [q,BT.get]
 | .node v l r,a,e=>by
  rw [BT.ins_node] at e ⊢
  rw [BT.ins_node]
  by_cases h:a=0
  ·simp only [if_pos h] at e ⊢; rw [BT.set_node,if_pos h]
  ·simp only [if_neg h] at e ⊢
   by_cases q:a % 2=1
   ·simp only [if_pos q] at e ⊢
    rw [BT.get_node,if_neg h,if_pos q] at e
    rw [BT.set_node,if_neg h,if_pos q,BT.ins_set f o l _ e]
   ·simp only [if_neg q] at e ⊢
    rw [BT.get_node,if_neg h,if_neg q] at e
    rw [BT.set_node,if_neg h,if_neg q,BT.ins_set f o r _ e]
theorem BT.ins_some (o o':Obj):∀ (t:BT) (a:Nat),((t.ins a o).get a).isSome=((t.ins a o').get a).isSome
 | .nil,a=>by
  have e1:∀ o,(BT.nil.ins a o)=.node o .nil .nil:=fun zz=>rfl
  rw [e1,e1,BT.get_node,BT.get_node]
  by_cases h:a=0
  ·simp [h]
  ·rw [if_neg h,if_neg h]
 | .node v l r,a=>by
  rw [BT.ins_node,BT.ins_node]
  by_cases h:a=0
  ·simp only [if_pos h]; rw [BT.get_node,BT.get_node,if_pos h,if_pos h]; rfl
  ·simp only [if_neg h]
   by_cases q:a % 2=1
   ·simp only [if_pos q]; rw [BT.get_node,BT.get_node,if_neg h,if_neg h,if_pos q,if_pos q]; exact BT.ins_some o o' l _
   ·simp only [if_neg q]; rw [BT.get_node,BT.get_node,if_neg h,if_neg h,if_neg q,if_neg q]; exact BT.ins_some o o' r _
theorem BT.set_get_ne {t:BT} {a i:Nat} {f:Obj → Obj} (h:i ≠ a):(t.set a f).get i=t.get i:=by rw [BT.get_set,if_neg h]
theorem BT.ins_get_ne {t:BT} {a i:Nat} {o:Obj} (e:((t.ins a o).get a).isSome=true) (h:i ≠ a):(t.ins a o).get i=t.get i:=by rw [BT.get_ins _ _ _ e,if_neg h]
theorem BT.ins_get {t:BT} {a:Nat} {o:Obj} (e:((t.ins a o).get a).isSome=true):(t.ins a o).get a=some o:=by rw [BT.get_ins _ _ _ e,if_pos rfl]
noncomputable abbrev Pr:=Int × PySem.Str
noncomputable def mkEs:List Pr → Nat → List DictEntry
 | [],_=>[]
 | (j,x) :: r,t=>⟨j,.int j t,.str x (t + 1)⟩ :: mkEs r (t + 3)
theorem mkEs_length:∀ (l:List Pr) (t:Nat),(mkEs l t).length=l.length
 | [],_=>rfl
 | (_,_) :: r,t=>by rw [mkEs,List.length_cons,List.length_cons,mkEs_length r]
theorem mkEs_app:∀ (l r:List Pr) (t:Nat),mkEs (l ++ r) t=mkEs l t ++ mkEs r (t + 3 * l.length)
 | [],r,t=>by rw [List.nil_append]; rfl
 | (j,x) :: l,r,t=>by
  rw [List.cons_append,mkEs,mkEs,mkEs_app l r,List.cons_append,List.length_cons]
  congr 3
  exact Nat.add_right_comm _ _ _
theorem mkEs_hash:∀ (l:List Pr) (t:Nat) (e:DictEntry),e ∈ mkEs l t → e.hash ∈ l.map (·.1)
 | [],_,_,h=>nomatch h
 | (j,x) :: r,t,e,h=>by
  rw [mkEs] at h
  rcases List.mem_cons.mp h with rfl | h
  ·exact List.mem_cons_self ..
  ·exact List.mem_cons_of_mem _ (mkEs_hash r _ e h)
theorem mkEs_key:∀ (l:List Pr) (t:Nat) (e:DictEntry),e ∈ mkEs l t → ∃ u,e.key=.int e.hash u
 | [],_,_,h=>nomatch h
 | (j,x) :: r,t,e,h=>by
  rw [mkEs] at h
  rcases List.mem_cons.mp h with rfl | h
  ·exact ⟨_,rfl⟩
  ·exact mkEs_key r _ e h
section
variable {p:Program} {w:World} {n₀:Nat} {ann:Option Value} {code:Code} {below:List (Code × Pos)}
noncomputable def IsPr (p:Program) (w:World) (n₀:Nat) (ann:Option Value) (code:Code) (below:List (Code × Pos)) (x:Sem Value × Sem Value) (a:Pr):Prop:=
 (0 ≤ a.1 ∧ a.1 < 2000000) ∧ ∀ T n k,GE (cQ p w n₀ ann) p w n₀ ann code below x.1 T n k (.int a.1 k) T n (k + 1) 1 ∧ GE (cQ p w n₀ ann) p w n₀ ann code below x.2 T n k (.str a.2 k) T n (k + 1) 2
inductive ArePr (p:Program) (w:World) (n₀:Nat) (ann:Option Value) (code:Code) (below:List (Code × Pos)):List (Sem Value × Sem Value) → List Pr → Prop
 | nil:ArePr p w n₀ ann code below [] []
 | cons {x a xs as}:IsPr p w n₀ ann code below x a → ArePr p w n₀ ann code below xs as → ArePr p w n₀ ann code below (x :: xs) (a :: as)
theorem ArePr.length {xs as} (h:ArePr p w n₀ ann code below xs as):xs.length=as.length:=by
 induction h with
 | nil=>rfl
 | cons _ _ ih=>rw [List.length_cons,List.length_cons,ih]
theorem push_set {T:BT} {d:Addr} {es:List DictEntry} {ep:Nat} (g:T.get d=some (dObj es ep)) (e:DictEntry):T.set d (Obj.mapDictKeys (·.push e))=T.set d fun zz=>dObj (es ++ [e]) (ep + 1):=by
 rw [BT.set_at _ _ _ _ g]
 have:Obj.mapDictKeys (·.push e) (dObj es ep)=dObj (es ++ [e]) (ep + 1):=by simp only [Obj.mapDictKeys,List.push_toArray]
 rw [this]
theorem ge_one {x:Sem Value × Sem Value} {a:Pr} (hx:IsPr p w n₀ ann code below x a) {T:BT} {d n k:Nat} {es:List DictEntry} {ep:Nat} (m:mayUpd n₀ ann d=true) (g:T.get d=some (dObj es ep)) (l:d < n) (hz:es.length < 100000) (hn:∀ e ∈ es,e.hash ≠ a.1) :
  GE (cQ p w n₀ ann) p w n₀ ann code below (do let kv ← x.1; let vv ← holding [kv] x.2; holding [kv,vv] (dictSet d kv vv); pure (ForInStep.yield PUnit.unit)) T n k (ForInStep.yield PUnit.unit) (T.set d fun zz=>dObj (es ++ mkEs [a] k) (ep + 1)) n (k + 3) 13:=by
 refine GE.bind (B1:=1) (B2:=12) (hx.2 T n k).1 ?_
 refine GE.bind (B1:=2) (B2:=10) (GE.holding (hx.2 T n (k + 1)).2) ?_
 refine GE.bind (a:=()) (B1:=10) (B2:=0) (GE.holding ?_) GE.pure
 unfold dictSet
 refine GE.holding ?_
 refine GE.bind (B1:=5) (B2:=5) (GE.pyHash hx.1.1 hx.1.2) ?_
 have:=GE.dictSetHashed (call:=cQ p w n₀ ann) (p:=p) (w:=w) (ann:=ann) (code:=code) (below:=below) (T:=T) (d:=d) (es:=es) (ep:=ep) (n:=n) (k:=k + 1 + 1 + 1) (j:=a.1) (t:=k) (v:=.str a.2 (k + 1)) m g l hz hn
 rw [push_set g] at this
 exact this
theorem ge_sub_loop {d:Addr} (m:mayUpd n₀ ann d=true) {f:Sem Value × Sem Value → PUnit → Sem (ForInStep PUnit)} (hf:∀ x u,f x u=(do let kv ← x.1; let vv ← holding [kv] x.2; holding [kv,vv] (dictSet d kv vv); pure (ForInStep.yield PUnit.unit))):∀ {xs:List (Sem Value × Sem Value)} {as:List Pr},ArePr p w n₀ ann code below xs as → ∀ {T:BT} {n k:Nat} {es:List DictEntry} {ep:Nat},T.get d=some (dObj es ep) → d < n → es.length + as.length < 100000 →
  (∀ e ∈ es,e.hash ∉ as.map (·.1)) → (as.map (·.1)).Nodup → GE (cQ p w n₀ ann) p w n₀ ann code below (forIn xs ⟨⟩ f) T n k ⟨⟩ (T.set d fun zz=>dObj (es ++ mkEs as k) (ep + as.length)) n (k + 3 * as.length) (13 * as.length):=by
 intro xs as h
 induction h with
 | nil=>
  intro T n k es ep g l hz hn nd
  have:T.set d (fun zz=>dObj (es ++ mkEs [] k) (ep + 0))=T:=by
   rw [mkEs,List.append_nil,Nat.add_zero]; exact BT.set_same _ _ _ g
  rw [List.length_nil,this]
  exact GE.forNil
 | @cons x a xs as hx _ ih=>
  intro T n k es ep g l hz hn nd
  rw [List.length_cons] at hz ⊢
  rw [List.map_cons,List.nodup_cons] at nd
  have n1:∀ e ∈ es,e.hash ≠ a.1:=fun e he q=>hn e he (by rw [List.map_cons,q]; exact List.mem_cons_self ..)
  have st:=ge_one hx (T:=T) (k:=k) m g l (by exact Nat.lt_of_le_of_lt (Nat.le_add_right _ _) hz) n1
  have g':(T.set d fun zz=>dObj (es ++ mkEs [a] k) (ep + 1)).get d=some (dObj (es ++ mkEs [a] k) (ep + 1)):=by rw [BT.get_set,if_pos rfl,g]; rfl
  have rest:=ih (T:=T.set d fun zz=>dObj (es ++ mkEs [a] k) (ep + 1)) (n:=n) (k:=k + 3) g' l (by rw [List.length_append,mkEs_length,List.length_singleton]; omega)
   (fun e he=>by
    rcases List.mem_append.mp he with he | he
    ·exact fun q=>hn e he (by rw [List.map_cons]; exact List.mem_cons_of_mem _ q)
    ·have:=mkEs_hash _ _ _ he
     rw [List.map_cons,List.map_nil,List.mem_singleton] at this
     rw [this]; exact nd.1) nd.2
  have e1:(T.set d fun zz=>dObj (es ++ mkEs [a] k) (ep + 1)).set d (fun zz=>dObj (es ++ mkEs [a] k ++ mkEs as (k + 3)) (ep + 1 + as.length))=T.set d fun zz=>dObj (es ++ mkEs (a :: as) k) (ep + (as.length + 1)):=by
   rw [BT.set_set,List.append_assoc,show mkEs [a] k ++ mkEs as (k + 3)=mkEs (a :: as) k from rfl,show ep + 1 + as.length=ep + (as.length + 1) by exact Nat.add_right_comm _ _ _]
  rw [e1] at rest
  refine GE.mono (B:=13 + 13 * as.length) (GE.forCons (b1:=⟨⟩) (B1:=13) (T1:=T.set d fun zz=>dObj (es ++ mkEs [a] k) (ep + 1)) (n1:=n) (k1:=k + 3) ?_ ?_) (by exact Nat.le_of_eq (Nat.add_comm _ _))
  ·rw [hf]
   exact st
  ·rw [show k + 3 * (as.length + 1)=k + 3 + 3 * as.length by omega]
   exact rest
end
section
variable {p:Program} {w:World} {n₀:Nat} {ann:Option Value} {code:Code} {below:List (Code × Pos)}
theorem ge_subLong {xs:List (Sem Value × Sem Value)} {as:List Pr} (h:ArePr p w n₀ ann code below xs as) {T:BT} {n k:Nat} (m:mayUpd n₀ ann n=true) (g:((T.ins n default).get n).isSome=true) (hl:15 < as.length) (hz:as.length < 100000) (nd:(as.map (·.1)).Nodup) :
  GE (cQ p w n₀ ann) p w n₀ ann code below (subDict xs) T n k n (T.ins n (dObj (mkEs as k) as.length)) (n + 1) (k + 3 * as.length) (2 + 13 * as.length):=by
 have g1:∀ o,((T.ins n o).get n).isSome=true:=fun o=>by rw [BT.ins_some o default]; exact g
 unfold subDict
 refine GE.bind (B1:=1) (B2:=1 + 13 * as.length) (T1:=T.ins n (dObj [] 0)) (GE.alloc (g1 _)) ?_ |>.mono (by exact Nat.le_of_eq (Nat.add_assoc _ _ _).symm)
 refine GE.bind (a:=()) (B1:=1 + 13 * as.length) (B2:=0) (GE.holding ?_) GE.pure
 rw [if_neg (by rw [h.length]; exact Nat.not_le.mpr hl)]
 refine GE.bind (B1:=1) (B2:=13 * as.length) GE.rule ?_
 have:=ge_sub_loop (p:=p) (w:=w) (n₀:=n₀) (ann:=ann) (code:=code) (below:=below) (d:=n) m (f:=fun x zz=>(match x with | (k,v)=>do let kv ← k; let vv ← holding [kv] v; holding [kv,vv] (dictSet n kv vv); pure (ForInStep.yield PUnit.unit))) (fun zz zz=>rfl) h
  (T:=T.ins n (dObj [] 0)) (n:=n + 1) (k:=k) (es:=[]) (ep:=0) (BT.ins_get (g1 _)) (Nat.lt_succ_self _) (by simpa using hz) (fun zz h=>nomatch h) nd
 rw [BT.ins_set _ _ _ _ (g1 _),List.nil_append,Nat.zero_add] at this
 exact GE.mono (B:=13 * as.length + 0) (GE.bind (a:=PUnit.unit) this GE.pure) (by exact Nat.le_refl _)
theorem ge_subDict2 {q:Pos} {T:BT} {n k:Nat}:True:=trivial
noncomputable def IntKeyed (l:List DictEntry):Prop:=∀ e ∈ l,∃ u,e.key=.int e.hash u
theorem ge_isDict {T:BT} {a n k:Nat} {es:List DictEntry} {ep:Nat} (g:T.get a=some (dObj es ep)) (l:a < n):GE (cQ p w n₀ ann) p w n₀ ann code below (isInstance (.ref a) (.type "dict")) T n k true T n k 1:=by
 unfold isInstance typeOf
 refine GE.bind (B1:=1) (B2:=0) (a:=.type "dict") (GE.bind (B1:=1) (B2:=0) (GE.loadPart g rfl l) GE.pure) ?_
 exact GE.of (callN_shift _) fun q=>sub_dict
theorem ge_iterOf {T:BT} {a n k:Nat} {es:List DictEntry} {ep:Nat} (g:T.get a=some (dObj es ep)) (l:a < n):GE (cQ p w n₀ ann) p w n₀ ann code below (specialOf (.ref a) "__iter__") T n k (some (.builtin "dict.__iter__")) T n k 1:=by
 unfold specialOf typeOf
 refine GE.bind (B1:=1) (B2:=0) (a:=.type "dict") (GE.bind (B1:=1) (B2:=0) (GE.loadPart g rfl l) GE.pure) ?_
 exact GE.of (callN_shift _) fun q=>iter_dict
theorem ge_mergeLoop {d a:Addr} (m:mayUpd n₀ ann d=true) (ne:d ≠ a) {ss:List DictEntry} {eps:Nat} (ik:IntKeyed ss) {f:Nat → PUnit → Sem (ForInStep PUnit)} {n k:Nat} (l:d < n) (la:a < n)
  (hf:∀ (i:Nat) (x:DictEntry) (u:Tok) (T:BT) (es:List DictEntry) (ep:Nat),ss[i]?=some x → x.key=.int x.hash u → T.get d=some (dObj es ep) → T.get a=some (dObj ss eps) → es.length < 100000 → (∀ e ∈ es,e.hash ≠ x.hash) →
   GE (cQ p w n₀ ann) p w n₀ ann code below (f i PUnit.unit) T n k (ForInStep.yield PUnit.unit) (T.set d fun zz=>dObj (es ++ [x]) (ep + 1)) n k 6) :
  ∀ (rest done:List DictEntry),ss=done ++ rest → ∀ {T:BT} {es:List DictEntry} {ep:Nat},T.get d=some (dObj es ep) → T.get a=some (dObj ss eps) → es.length + rest.length < 100000 →
   (∀ e ∈ es,e.hash ∉ rest.map (·.hash)) → (rest.map (·.hash)).Nodup → GE (cQ p w n₀ ann) p w n₀ ann code below (forIn (List.range' done.length rest.length) ⟨⟩ f) T n k ⟨⟩ (T.set d fun zz=>dObj (es ++ rest) (ep + rest.length)) n k (6 * rest.length):=by
 intro rest
 induction rest with
 | nil=>
  intro done hs T es ep g ga hz hn nd
  have:T.set d (fun zz=>dObj (es ++ []) (ep + 0))=T:=by
   rw [List.append_nil,Nat.add_zero]; exact BT.set_same _ _ _ g
  rw [List.length_nil,this]
  exact GE.forNil
 | cons x rest ih=>
  intro done hs T es ep g ga hz hn nd
  rw [List.length_cons] at hz ⊢
  rw [List.map_cons,List.nodup_cons] at nd
  obtain ⟨u,hu⟩:=ik x (by rw [hs]; exact List.mem_append_right _ (List.mem_cons_self ..))
  have n1:∀ e ∈ es,e.hash ≠ x.hash:=fun e he q=>hn e he (by rw [List.map_cons,q]; exact List.mem_cons_self ..)
  have g':(T.set d fun zz=>dObj (es ++ [x]) (ep + 1)).get d=some (dObj (es ++ [x]) (ep + 1)):=by rw [BT.get_set,if_pos rfl,g]; rfl
  have ga':(T.set d fun zz=>dObj (es ++ [x]) (ep + 1)).get a=some (dObj ss eps):=by rw [BT.set_get_ne (Ne.symm ne)]; exact ga
  have next:=ih (done ++ [x]) (by rw [hs,List.append_assoc]; rfl) (T:=T.set d fun zz=>dObj (es ++ [x]) (ep + 1)) g' ga' (by rw [List.length_append,List.length_singleton]; omega)
   (fun e he=>by
    rcases List.mem_append.mp he with he | he
    ·exact fun q=>hn e he (by rw [List.map_cons]; exact List.mem_cons_of_mem _ q)
    ·rw [List.mem_singleton] at he
     rw [he]; exact nd.1) nd.2
  have e1:(T.set d fun zz=>dObj (es ++ [x]) (ep + 1)).set d (fun zz=>dObj (es ++ [x] ++ rest) (ep + 1 + rest.length))=T.set d fun zz=>dObj (es ++ x :: rest) (ep + (rest.length + 1)):=by
   rw [BT.set_set,List.append_assoc,List.singleton_append,show ep + 1 + rest.length=ep + (rest.length + 1) by exact Nat.add_right_comm _ _ _]
  rw [e1,List.length_append,List.length_singleton] at next
  rw [List.range'_succ]
  have ei:ss[done.length]?=some x:=by rw [hs,List.getElem?_append_right (Nat.le_refl _),Nat.sub_self]; rfl
  exact GE.mono (B:=6 + 6 * rest.length) (GE.forCons (b1:=PUnit.unit) (B1:=6) (T1:=T.set d fun zz=>dObj (es ++ [x]) (ep + 1)) (n1:=n) (k1:=k) (hf _ x u T es ep ei hu g ga (by exact Nat.lt_of_le_of_lt (Nat.le_add_right _ _) hz) n1) next) (by exact Nat.le_of_eq (Nat.add_comm _ _))
theorem ge_merge {d a:Addr} (m:mayUpd n₀ ann d=true) (ne:d ≠ a) (ha:(a == sysModules)=false) {ss:List DictEntry} {eps:Nat} (ik:IntKeyed ss) {T:BT} {n k:Nat} {es:List DictEntry} {ep:Nat}
  (g:T.get d=some (dObj es ep)) (ga:T.get a=some (dObj ss eps)) (l:d < n) (la:a < n) (hz:es.length + ss.length < 100000) (he:es ≠ [])
  (hn:∀ e ∈ es,e.hash ∉ ss.map (·.hash)) (nd:(ss.map (·.hash)).Nodup):GE (cQ p w n₀ ann) p w n₀ ann code below (mergeMapping d (.ref a) false) T n k () (T.set d fun zz=>dObj (es ++ ss) (ep + ss.length)) n k (6 + 6 * ss.length):=by
 unfold mergeMapping
 refine GE.bind (B1:=1) (B2:=5 + 6 * ss.length) (ge_isDict ga la) ?_ |>.mono (by exact Nat.le_of_eq (Nat.add_assoc _ _ _).symm)
 dsimp only
 rw [if_pos rfl]
 refine GE.bind (B1:=1) (B2:=4 + 6 * ss.length) (ge_iterOf ga la) ?_ |>.mono (by exact Nat.le_of_eq (Nat.add_assoc _ _ _).symm)
 have e1:((some (Value.builtin "dict.__iter__")) == some (.builtin "dict.__iter__"))=true:=beq_self_eq_true _
 rw [e1]
 refine GE.bind (B1:=0) (B2:=4 + 6 * ss.length) GE.pure ?_ |>.mono (by exact Nat.le_of_eq (Nat.add_assoc _ _ _).symm)
 dsimp only
 rw [if_neg (by rw [ha]; exact Bool.false_ne_true)]
 refine GE.bind (B1:=1) (B2:=3 + 6 * ss.length) (GE.dictEntries g l) ?_ |>.mono (by exact Nat.le_of_eq (Nat.add_assoc _ _ _).symm)
 have e0:es.toArray.isEmpty=false:=by cases es with
  | nil=>exact absurd rfl he
  | cons _ _=>rfl
 rw [if_neg (by rw [e0]; exact Bool.false_ne_true)]
 refine GE.bind (B1:=1) (B2:=2 + 6 * ss.length) (GE.dictEntries ga la) ?_ |>.mono (by exact Nat.le_of_eq (Nat.add_assoc _ _ _).symm)
 refine GE.bind (B1:=1) (B2:=6 * ss.length) (GE.dictEpoch ga la) ?_ |>.mono (by exact Nat.add_le_add_right (by decide) _)
 refine GE.bind (a:=PUnit.unit) (B1:=6 * ss.length) (B2:=0) ?_ GE.pure
 rw [List.size_toArray,List.range_eq_range']
 refine ge_mergeLoop (p:=p) (w:=w) (n₀:=n₀) (ann:=ann) (code:=code) (below:=below) (d:=d) (a:=a) m ne (ss:=ss) (eps:=eps) ik (n:=n) (k:=k) l la ?_ ss [] rfl g ga hz hn nd
 ·intro i x u T es ep hi hu g ga hz hn
  refine GE.bind (B1:=1) (B2:=5) (GE.dictEntries ga la) ?_
  have ei:ss.toArray[i]?=some x:=by rw [List.getElem?_toArray,hi]
  rw [ei]
  have hx:x=⟨x.hash,.int x.hash u,x.val⟩:=by cases x; simp only at hu; subst hu; rfl
  have st:=GE.dictPut (call:=cQ p w n₀ ann) (p:=p) (w:=w) (ann:=ann) (code:=code) (below:=below) (T:=T) (d:=d) (es:=es) (ep:=ep) (n:=n) (k:=k) (j:=x.hash) (t:=u) (v:=x.val) m g l hz hn
  rw [push_set g,← hx,← hu] at st
  refine GE.bind (a:=()) (B1:=4) (B2:=1) (GE.holding (by rw [if_neg Bool.false_ne_true]; exact st)) ?_
  refine GE.bind (B1:=1) (B2:=0) (GE.dictEpoch (by rw [BT.set_get_ne (Ne.symm ne)]; exact ga) la) ?_
  rw [if_neg (by simp)]
  exact GE.pure
end
noncomputable def mkSh:List Pr → Nat → List DictEntry
 | [],_=>[]
 | (j,x) :: r,t=>⟨j,.int j t,.str x (t + 1)⟩ :: mkSh r (t + 2)
theorem mkSh_length:∀ (l:List Pr) (t:Nat),(mkSh l t).length=l.length
 | [],_=>rfl
 | (_,_) :: r,t=>by rw [mkSh,List.length_cons,List.length_cons,mkSh_length r]
theorem mkSh_hashes:∀ (l:List Pr) (t:Nat),(mkSh l t).map (·.hash)=l.map (·.1)
 | [],_=>rfl
 | (_,_) :: r,t=>by rw [mkSh,List.map_cons,List.map_cons,mkSh_hashes r]
theorem mkEs_hashes:∀ (l:List Pr) (t:Nat),(mkEs l t).map (·.hash)=l.map (·.1)
 | [],_=>rfl
 | (_,_) :: r,t=>by rw [mkEs,List.map_cons,List.map_cons,mkEs_hashes r]
theorem mkSh_key:∀ (l:List Pr) (t:Nat),IntKeyed (mkSh l t)
 | [],_,_,h=>nomatch h
 | (j,x) :: r,t,e,h=>by
  rw [mkSh] at h
  rcases List.mem_cons.mp h with rfl | h
  ·exact ⟨_,rfl⟩
  ·exact mkSh_key r _ e h
section
variable {p:Program} {w:World} {n₀:Nat} {ann:Option Value} {code:Code} {below:List (Code × Pos)}
theorem ge_evalPairs {xs:List (Sem Value × Sem Value)} {as:List Pr} (h:ArePr p w n₀ ann code below xs as):∀ {T:BT} {n k:Nat},GE (cQ p w n₀ ann) p w n₀ ann code below (evalPairs xs) T n k ((mkSh as k).map fun e=>(e.key,e.val)) T n (k + 2 * as.length) (3 * as.length):=by
 induction h with
 | nil=>intro T n k; exact GE.pure
 | @cons x a xs as hx _ ih=>
  intro T n k
  obtain ⟨x1,x2⟩:=x
  obtain ⟨j,v⟩:=a
  rw [List.length_cons]
  unfold evalPairs
  refine GE.mono (B:=1 + (2 + (3 * as.length + 0))) ?_ (by omega)
  refine GE.bind (hx.2 T n k).1 ?_
  refine GE.bind (GE.holding (hx.2 T n (k + 1)).2) ?_
  have:=ih (T:=T) (n:=n) (k:=k + 1 + 1)
  refine GE.bind (GE.holding this) ?_
  rw [show k + 2 * (as.length + 1)=k + 1 + 1 + 2 * as.length by omega]
  exact GE.pure
theorem ge_setLoop {d:Addr} (m:mayUpd n₀ ann d=true):∀ (ss:List DictEntry),IntKeyed ss → (∀ e ∈ ss,0 ≤ e.hash ∧ e.hash < 2000000) → ∀ {T:BT} {n k:Nat} {es:List DictEntry} {ep:Nat},T.get d=some (dObj es ep) → d < n → es.length + ss.length < 100000 →
  (∀ e ∈ es,e.hash ∉ ss.map (·.hash)) → (ss.map (·.hash)).Nodup →
  GE (cQ p w n₀ ann) p w n₀ ann code below (forIn (ss.map fun e=>(e.key,e.val)) PUnit.unit fun x (_:PUnit)=>(match x with | (k,v)=>do dictSet d k v; pure (ForInStep.yield PUnit.unit))) T n k PUnit.unit (T.set d fun zz=>dObj (es ++ ss) (ep + ss.length)) n (k + ss.length) (10 * ss.length):=by
 intro ss
 induction ss with
 | nil=>
  intro ik hr T n k es ep g l hz hn nd
  have:T.set d (fun zz=>dObj (es ++ []) (ep + 0))=T:=by
   rw [List.append_nil,Nat.add_zero]; exact BT.set_same _ _ _ g
  rw [List.length_nil,this]
  exact GE.forNil
 | cons x rest ih=>
  intro ik hr T n k es ep g l hz hn nd
  rw [List.length_cons] at hz ⊢
  rw [List.map_cons,List.nodup_cons] at nd
  obtain ⟨u,hu⟩:=ik x (List.mem_cons_self ..)
  have n1:∀ e ∈ es,e.hash ≠ x.hash:=fun e he q=>hn e he (by rw [List.map_cons,q]; exact List.mem_cons_self ..)
  have hx:x=⟨x.hash,.int x.hash u,x.val⟩:=by cases x; simp only at hu; subst hu; rfl
  have st:=GE.dictSetHashed (call:=cQ p w n₀ ann) (p:=p) (w:=w) (ann:=ann) (code:=code) (below:=below) (T:=T) (d:=d) (es:=es) (ep:=ep) (n:=n) (k:=k + 1) (j:=x.hash) (t:=u) (v:=x.val) m g l (by exact Nat.lt_of_le_of_lt (Nat.le_add_right _ _) hz) n1
  rw [push_set g,← hx] at st
  have g':(T.set d fun zz=>dObj (es ++ [x]) (ep + 1)).get d=some (dObj (es ++ [x]) (ep + 1)):=by rw [BT.get_set,if_pos rfl,g]; rfl
  have next:=ih (fun e he=>ik e (List.mem_cons_of_mem _ he)) (fun e he=>hr e (List.mem_cons_of_mem _ he)) (T:=T.set d fun zz=>dObj (es ++ [x]) (ep + 1)) (n:=n) (k:=k + 1) g' l (by rw [List.length_append,List.length_singleton]; omega)
   (fun e he=>by
    rcases List.mem_append.mp he with he | he
    ·exact fun q=>hn e he (by rw [List.map_cons]; exact List.mem_cons_of_mem _ q)
    ·rw [List.mem_singleton] at he
     rw [he]; exact nd.1) nd.2
  have e1:(T.set d fun zz=>dObj (es ++ [x]) (ep + 1)).set d (fun zz=>dObj (es ++ [x] ++ rest) (ep + 1 + rest.length))=T.set d fun zz=>dObj (es ++ x :: rest) (ep + (rest.length + 1)):=by
   rw [BT.set_set,List.append_assoc,List.singleton_append,show ep + 1 + rest.length=ep + (rest.length + 1) by exact Nat.add_right_comm _ _ _]
  rw [e1] at next
  rw [List.map_cons]
  rw [show k + (rest.length + 1)=k + 1 + rest.length by omega]
  refine GE.mono (B:=10 + 10 * rest.length) (GE.forCons (b1:=PUnit.unit) (B1:=10) (T1:=T.set d fun zz=>dObj (es ++ [x]) (ep + 1)) (n1:=n) (k1:=k + 1) ?_ next) (by exact Nat.le_of_eq (Nat.add_comm _ _))
  refine GE.bind (a:=()) (B1:=10) (B2:=0) ?_ GE.pure
  show GE _ _ _ _ _ _ _ (dictSet d x.key x.val) _ _ _ _ _ _ _ _
  unfold dictSet
  refine GE.holding ?_
  rw [hu]
  exact GE.bind (B1:=5) (B2:=5) (GE.pyHash (hr x (List.mem_cons_self ..)).1 (hr x (List.mem_cons_self ..)).2) st
theorem ge_subShort {xs:List (Sem Value × Sem Value)} {as:List Pr} (h:ArePr p w n₀ ann code below xs as) (hr:∀ a ∈ as,0 ≤ a.1 ∧ a.1 < 2000000) {T:BT} {n k:Nat} (m:mayUpd n₀ ann n=true) (g:((T.ins n default).get n).isSome=true) (hl:as.length ≤ 15) (nd:(as.map (·.1)).Nodup) :
  GE (cQ p w n₀ ann) p w n₀ ann code below (subDict xs) T n k n (T.ins n (dObj (mkSh as k) as.length)) (n + 1) (k + 3 * as.length) (1 + 13 * as.length):=by
 have g1:∀ o,((T.ins n o).get n).isSome=true:=fun o=>by rw [BT.ins_some o default]; exact g
 unfold subDict
 refine GE.bind (B1:=1) (B2:=13 * as.length) (T1:=T.ins n (dObj [] 0)) (GE.alloc (g1 _)) ?_ |>.mono (by exact Nat.le_refl _)
 refine GE.bind (a:=()) (B1:=13 * as.length) (B2:=0) (GE.holding ?_) GE.pure
 rw [if_pos (by rw [h.length]; exact hl)]
 refine GE.mono (B:=3 * as.length + (10 * as.length + 0)) ?_ (by omega)
 refine GE.bind (ge_evalPairs h) ?_
 refine GE.holding ?_
 have:=ge_setLoop (p:=p) (w:=w) (n₀:=n₀) (ann:=ann) (code:=code) (below:=below) (d:=n) m (mkSh as k) (mkSh_key _ _)
  (fun e he=>by
   have:e.hash ∈ (mkSh as k).map (·.hash):=List.mem_map_of_mem he
   rw [mkSh_hashes] at this
   obtain ⟨a,ha,q⟩:=List.mem_map.mp this
   rw [← q]; exact hr a ha)
  (T:=T.ins n (dObj [] 0)) (n:=n + 1) (k:=k + 2 * as.length) (es:=[]) (ep:=0) (BT.ins_get (g1 _)) (Nat.lt_succ_self _) (by rw [mkSh_length]; simp; exact Nat.lt_of_le_of_lt hl (by decide)) (fun zz h=>nomatch h) (by rw [mkSh_hashes]; exact nd)
 rw [BT.ins_set _ _ _ _ (g1 _),List.nil_append,Nat.zero_add,mkSh_length,show k + 2 * as.length + as.length=k + 3 * as.length by omega] at this
 exact GE.bind (a:=PUnit.unit) this GE.pure
end
noncomputable def accT (d:Nat):List (List Pr) → BT → Nat → Nat → List DictEntry → BT
 | [],T,_,_,_=>T
 | c :: r,T,n,k,es=>accT d r ((T.ins n (dObj (mkEs c k) c.length)).set d fun zz=>dObj (es ++ mkEs c k) (es.length + c.length)) (n + 1) (k + 3 * c.length) (es ++ mkEs c k)
noncomputable def accE:List (List Pr) → Nat → List DictEntry → List DictEntry
 | [],_,es=>es
 | c :: r,k,es=>accE r (k + 3 * c.length) (es ++ mkEs c k)
noncomputable def lenL:List (List Pr) → Nat
 | []=>0
 | c :: r=>c.length + lenL r
section
variable {p:Program} {w:World} {n₀:Nat} {ann:Option Value} {code:Code} {below:List (Code × Pos)}
noncomputable abbrev It:=Option (Sem Value) × Sem Value
noncomputable def items (xs:List (Sem Value × Sem Value)):List It:=xs.map fun x=>(some x.1,x.2)
noncomputable def dFlush (run:List (Sem Value × Sem Value)) (main:Option Addr):Sem (Option Addr):=do
  if run.isEmpty then return main
  match main with
  | none=>return some (← subDict run)
  | some d=>
   let sub ← holding [.ref d] (subDict run)
   (holding [.ref d,.ref sub] (mergeMapping d (.ref sub) false)).onRaise fun x=>do let _ ← holding [.ref d,x] (runValue (.builtin "proto.let_go" {}))
   return some d
theorem dd_eq (xs:List (Sem Value × Sem Value)):∃ (f:It → Option Addr × List (Sem Value × Sem Value) → Sem (ForInStep (Option Addr × List (Sem Value × Sem Value)))),
  (dictDisplay (items xs)=(forIn (items xs) (none,[]) f) >>= fun r=>do
   match ← dFlush r.2 r.1 with
   | some d=>pure (.ref d)
   | none=>newDict) ∧
  (∀ k v m run,f (some k,v) (m,run)=if ((run ++ [(k,v)]).length == 17)=true then dFlush (run ++ [(k,v)]) m >>= fun m'=>pure (ForInStep.yield (m',[])) else pure (ForInStep.yield (m,run ++ [(k,v)]))):=by
 unfold dictDisplay
 dsimp only
 exact ⟨_,rfl,fun k v m run=>rfl⟩
theorem ge_lay {f:It → Option Addr × List (Sem Value × Sem Value) → Sem (ForInStep (Option Addr × List (Sem Value × Sem Value)))}
  (hf:∀ k v m run,f (some k,v) (m,run)=if ((run ++ [(k,v)]).length == 17)=true then dFlush (run ++ [(k,v)]) m >>= fun m'=>pure (ForInStep.yield (m',[])) else pure (ForInStep.yield (m,run ++ [(k,v)])))
  {m:Option Addr}:∀ (xs:List (Sem Value × Sem Value)) (run:List (Sem Value × Sem Value)) {rest:List It},run.length + xs.length ≤ 16 → ∀ {T n k b T' n' k' B},GE (cQ p w n₀ ann) p w n₀ ann code below (forIn rest (m,run ++ xs) f) T n k b T' n' k' B → GE (cQ p w n₀ ann) p w n₀ ann code below (forIn (items xs ++ rest) (m,run) f) T n k b T' n' k' B:=by
 intro xs
 induction xs with
 | nil=>intro run rest hl T n k b T' n' k' B h; rw [List.append_nil] at h; exact h
 | cons x xs ih=>
  intro run rest hl T n k b T' n' k' B h
  obtain ⟨u,v⟩:=x
  rw [List.length_cons] at hl
  have:=ih (run ++ [(u,v)]) (rest:=rest) (by rw [List.length_append,List.length_singleton]; omega) (T:=T) (n:=n) (k:=k) (b:=b) (T':=T') (n':=n') (k':=k') (B:=B) (by rw [List.append_assoc,List.singleton_append]; exact h)
  show GE _ _ _ _ _ _ _ (forIn ((some u,v) :: (items xs ++ rest)) (m,run) f) _ _ _ _ _ _ _ _
  refine GE.mono (B:=0 + B) (GE.forCons (b1:=(m,run ++ [(u,v)])) (B1:=0) ?_ this) (by exact Nat.le_of_eq (Nat.add_comm _ _))
  rw [hf,if_neg (by rw [List.length_append,List.length_singleton]; simp; omega)]
  exact GE.pure
theorem ArePr.split {as bs:List Pr}:∀ {xs:List (Sem Value × Sem Value)},ArePr p w n₀ ann code below xs (as ++ bs) → ∃ ys zs,xs=ys ++ zs ∧ ArePr p w n₀ ann code below ys as ∧ ArePr p w n₀ ann code below zs bs:=by
 induction as with
 | nil=>intro xs h; exact ⟨[],xs,rfl,.nil,h⟩
 | cons a as ih=>
  intro xs h
  cases h with
  | cons hx h=>
   obtain ⟨ys,zs,rfl,h1,h2⟩:=ih h
   exact ⟨_ :: ys,zs,rfl,.cons hx h1,h2⟩
theorem ge_chunk {f:It → Option Addr × List (Sem Value × Sem Value) → Sem (ForInStep (Option Addr × List (Sem Value × Sem Value)))}
  (hf:∀ k v m run,f (some k,v) (m,run)=if ((run ++ [(k,v)]).length == 17)=true then dFlush (run ++ [(k,v)]) m >>= fun m'=>pure (ForInStep.yield (m',[])) else pure (ForInStep.yield (m,run ++ [(k,v)])))
  {m m':Option Addr} {xs:List (Sem Value × Sem Value)} (hl:xs.length=17) {rest:List It} {T n k T1 n1 k1 B1 b T' n' k' B} (h:GE (cQ p w n₀ ann) p w n₀ ann code below (dFlush xs m) T n k m' T1 n1 k1 B1) (g:GE (cQ p w n₀ ann) p w n₀ ann code below (forIn rest (m',[]) f) T1 n1 k1 b T' n' k' B) :
  GE (cQ p w n₀ ann) p w n₀ ann code below (forIn (items xs ++ rest) (m,[]) f) T n k b T' n' k' (B1 + B):=by
 have e:xs=xs.take 16 ++ xs.drop 16:=(List.take_append_drop ..).symm
 obtain ⟨z,hz⟩:∃ z,xs.drop 16=[z]:=List.length_eq_one_iff.mp (by rw [List.length_drop,hl])
 obtain ⟨u,v⟩:=z
 have e2:items xs ++ rest=items (xs.take 16) ++ ((some u,v) :: rest):=by
  conv=>lhs; rw [e]
  unfold items
  rw [List.map_append,hz,List.append_assoc]
  rfl
 rw [e2]
 refine ge_lay hf _ [] (by rw [List.length_take]; simp; omega) ?_
 refine GE.forCons (b1:=(m',[])) (T1:=T1) (n1:=n1) (k1:=k1) ?_ g
 have e3:[] ++ xs.take 16 ++ [(u,v)]=xs:=by rw [List.nil_append,← hz]; exact e.symm
 rw [hf,e3,if_pos (by rw [hl]; rfl)]
 exact GE.mono (B:=B1 + 0) (GE.bind h GE.pure) (by exact Nat.le_refl _)
theorem ge_flush0 {xs:List (Sem Value × Sem Value)} {as:List Pr} (h:ArePr p w n₀ ann code below xs as) {T:BT} {n k:Nat} (m:mayUpd n₀ ann n=true) (g:((T.ins n default).get n).isSome=true) (hl:15 < as.length) (hz:as.length < 100000) (nd:(as.map (·.1)).Nodup) :
  GE (cQ p w n₀ ann) p w n₀ ann code below (dFlush xs none) T n k (some n) (T.ins n (dObj (mkEs as k) as.length)) (n + 1) (k + 3 * as.length) (2 + 13 * as.length):=by
 unfold dFlush
 have:xs.isEmpty=false:=by cases h with
  | nil=>simp at hl
  | cons _ _=>rfl
 rw [if_neg (by rw [this]; exact Bool.false_ne_true)]
 exact GE.mono (B:=2 + 13 * as.length + 0) (GE.bind (ge_subLong h m g hl hz nd) GE.pure) (by exact Nat.le_refl _)
theorem ge_flush1 {d:Nat} (md:mayUpd n₀ ann d=true) {xs:List (Sem Value × Sem Value)} {as:List Pr} (h:ArePr p w n₀ ann code below xs as) {T:BT} {n k:Nat} {es:List DictEntry} (m:mayUpd n₀ ann n=true) (g:((T.ins n default).get n).isSome=true) (gd:T.get d=some (dObj es es.length)) (l:d < n) (hn:(n == sysModules)=false) (he:es ≠ [])
  {ss:List DictEntry} (ik:IntKeyed ss) (sh:ss.map (·.hash)=as.map (·.1)) (hz:es.length + ss.length < 100000) (fr:∀ e ∈ es,e.hash ∉ as.map (·.1)) (nd:(as.map (·.1)).Nodup) {B:Nat} (hsub:GE (cQ p w n₀ ann) p w n₀ ann code below (subDict xs) T n k n (T.ins n (dObj ss ss.length)) (n + 1) (k + 3 * as.length) B) (hpos:0 < as.length) :
  GE (cQ p w n₀ ann) p w n₀ ann code below (dFlush xs (some d)) T n k (some d) ((T.ins n (dObj ss ss.length)).set d fun zz=>dObj (es ++ ss) (es.length + ss.length)) (n + 1) (k + 3 * as.length) (B + (6 + 6 * ss.length)):=by
 unfold dFlush
 have:xs.isEmpty=false:=by cases h with
  | nil=>simp at hpos
  | cons _ _=>rfl
 have g1:∀ o,((T.ins n o).get n).isSome=true:=fun o=>by rw [BT.ins_some o default]; exact g
 rw [if_neg (by rw [this]; exact Bool.false_ne_true)]
 refine GE.bind (GE.holding hsub) ?_
 refine GE.mono (B:=6 + 6 * ss.length + 0) (GE.bind (a:=()) (GE.onRaise (GE.holding ?_)) GE.pure) (by exact Nat.le_refl _)
 exact ge_merge md (Nat.ne_of_lt l) hn ik (by rw [BT.ins_get_ne (g1 _) (Nat.ne_of_lt l)]; exact gd) (BT.ins_get (g1 _)) (Nat.lt_succ_of_lt l) (Nat.lt_succ_self _) hz he (by rw [sh]; exact fr) (by rw [sh]; exact nd)
end
noncomputable def Full (T:BT) (n:Nat):Prop:=∀ i,i < n → (T.get i).isSome=true
theorem Full.ins_ok (o:Obj):∀ (T:BT) (n:Nat),Full T n → ((T.ins n o).get n).isSome=true
 | .nil,n,h=>by
  have e1:(BT.nil.ins n o)=.node o .nil .nil:=rfl
  rw [e1,BT.get_node]
  by_cases hn:n=0
  ·rw [if_pos hn]; rfl
  ·have:=h 0 (by exact Nat.pos_of_ne_zero hn); simp [BT.get] at this
 | .node v l r,n,h=>by
  rw [BT.ins_node]
  by_cases hn:n=0
  ·rw [if_pos hn,BT.get_node,if_pos hn]; rfl
  ·rw [if_neg hn]
   by_cases q:n % 2=1
   ·rw [if_pos q,BT.get_node,if_neg hn,if_pos q]
    refine Full.ins_ok o l _ fun i hi=>?_
    have:=h (2 * i + 1) (by omega)
    rw [BT.get_node,if_neg (by exact Nat.succ_ne_zero _),if_pos (by omega),show (2 * i + 1) / 2=i by omega] at this
    exact this
   ·rw [if_neg q,BT.get_node,if_neg hn,if_neg q]
    refine Full.ins_ok o r _ fun i hi=>?_
    have:=h (2 * i + 2) (by omega)
    rw [BT.get_node,if_neg (by exact Nat.succ_ne_zero _),if_neg (by omega),show (2 * i + 2) / 2 - 1=i by omega] at this
    exact this
theorem Full.ins {T:BT} {n:Nat} (h:Full T n) (o:Obj):Full (T.ins n o) (n + 1):=fun i hi=>by
 rw [BT.get_ins _ _ _ (h.ins_ok o)]
 by_cases e:i=n
 ·rw [if_pos e]; rfl
 ·rw [if_neg e]; exact h i (by omega)
theorem Full.set {T:BT} {n a:Nat} (h:Full T n) (f:Obj → Obj):Full (T.set a f) n:=fun i hi=>by
 rw [BT.get_set]
 by_cases e:i=a
 ·rw [if_pos e,Option.isSome_map]; exact h a (e ▸ hi)
 ·rw [if_neg e]; exact h i hi
section
variable {p:Program} {w:World} {n₀:Nat} {ann:Option Value} {code:Code} {below:List (Code × Pos)}
theorem mayUpd_of {n:Nat} (h:n₀ ≤ n):mayUpd n₀ ann n=true:=by
 unfold mayUpd
 rw [show Nat.ble n₀ n=true from Nat.ble_eq_true_of_le h]
 rfl
theorem accE_length:∀ (chs:List (List Pr)) (k:Nat) (es:List DictEntry),(accE chs k es).length=es.length + lenL chs
 | [],_,_=>rfl
 | c :: r,k,es=>by rw [accE,accE_length r,List.length_append,mkEs_length,lenL]; exact Nat.add_assoc _ _ _
theorem accE_hashes:∀ (chs:List (List Pr)) (k:Nat) (es:List DictEntry),(accE chs k es).map (·.hash)=es.map (·.hash) ++ chs.flatten.map (·.1)
 | [],_,es=>by rw [accE,List.flatten_nil,List.map_nil,List.append_nil]
 | c :: r,k,es=>by rw [accE,accE_hashes r,List.map_append,mkEs_hashes,List.flatten_cons,List.map_append,List.append_assoc]
theorem ge_chunks {f:It → Option Addr × List (Sem Value × Sem Value) → Sem (ForInStep (Option Addr × List (Sem Value × Sem Value)))}
  (hf:∀ k v m run,f (some k,v) (m,run)=if ((run ++ [(k,v)]).length == 17)=true then dFlush (run ++ [(k,v)]) m >>= fun m'=>pure (ForInStep.yield (m',[])) else pure (ForInStep.yield (m,run ++ [(k,v)])))
  {d:Nat} (hd:n₀ ≤ d) (h1:1 < d) {rest:List It} {B:Nat} {b:Option Addr × List (Sem Value × Sem Value)} {T':BT} {n' k':Nat}:∀ (chs:List (List Pr)) {xs:List (Sem Value × Sem Value)},ArePr p w n₀ ann code below xs chs.flatten → (∀ c ∈ chs,c.length=17) →
   ∀ {T:BT} {n k:Nat} {es:List DictEntry},Full T n → T.get d=some (dObj es es.length) → d < n → es ≠ [] → es.length + lenL chs < 100000 → (es.map (·.hash) ++ chs.flatten.map (·.1)).Nodup →
   (Full (accT d chs T n k es) (n + chs.length) → (accT d chs T n k es).get d=some (dObj (accE chs k es) (accE chs k es).length) → GE (cQ p w n₀ ann) p w n₀ ann code below (forIn rest (some d,[]) f) (accT d chs T n k es) (n + chs.length) (k + 3 * lenL chs) b T' n' k' B) →
   GE (cQ p w n₀ ann) p w n₀ ann code below (forIn (items xs ++ rest) (some d,[]) f) T n k b T' n' k' (400 * chs.length + B):=by
 intro chs
 induction chs with
 | nil=>
  intro xs h hl T n k es F gd l he hz nd g
  cases h
  exact GE.mono (g F gd) (by exact Nat.le_add_left _ _)
 | cons c chs ih=>
  intro xs h hl T n k es F gd l he hz nd g
  rw [List.flatten_cons] at h nd
  obtain ⟨ys,zs,rfl,hy,hzs⟩:=h.split
  have cl:c.length=17:=hl c (List.mem_cons_self ..)
  rw [lenL] at hz
  rw [List.map_append] at nd
  have nd0:=List.nodup_append.mp nd
  have nd1:=List.nodup_append.mp nd0.2.1
  have fr:∀ e ∈ es,e.hash ∉ c.map (·.1):=fun e he q=>nd0.2.2 e.hash (List.mem_map_of_mem he) e.hash (List.mem_append_left _ q) rfl
  have sub:=ge_subLong (p:=p) (w:=w) (n₀:=n₀) (ann:=ann) (code:=code) (below:=below) hy (T:=T) (n:=n) (k:=k) (mayUpd_of (by exact Nat.le_of_lt (Nat.lt_of_le_of_lt hd l))) (F.ins_ok _) (by omega) (by omega) nd1.1
  have F1:Full ((T.ins n (dObj (mkEs c k) c.length)).set d fun zz=>dObj (es ++ mkEs c k) (es.length + c.length)) (n + 1):=(F.ins _).set _
  have gd1:((T.ins n (dObj (mkEs c k) c.length)).set d fun zz=>dObj (es ++ mkEs c k) (es.length + c.length)).get d=some (dObj (es ++ mkEs c k) (es ++ mkEs c k).length):=by
   rw [BT.get_set,if_pos rfl,BT.ins_get_ne (F.ins_ok _) (Nat.ne_of_lt l),gd,List.length_append,mkEs_length]; rfl
  have sl:(mkEs c k).length=c.length:=mkEs_length c k
  have fl:=ge_flush1 (p:=p) (w:=w) (n₀:=n₀) (ann:=ann) (code:=code) (below:=below) (d:=d) (mayUpd_of hd) hy (T:=T) (n:=n) (k:=k) (es:=es) (mayUpd_of (by exact Nat.le_of_lt (Nat.lt_of_le_of_lt hd l))) (F.ins_ok _) gd l
   (by rw [beq_eq_false_iff_ne]; show n ≠ 1; omega) he (ss:=mkEs c k) (fun e he=>mkEs_key _ _ e he) (mkEs_hashes _ _) (by rw [sl]; omega) fr nd1.1 (B:=2 + 13 * c.length) (by rw [sl]; exact sub) (by omega)
  rw [sl] at fl
  have g':=g
  rw [accT,accE,lenL,List.length_cons,show n + (chs.length + 1)=n + 1 + chs.length by omega,show k + 3 * (c.length + lenL chs)=k + 3 * c.length + 3 * lenL chs by omega] at g'
  have next:=ih hzs (fun c hc=>hl c (List.mem_cons_of_mem _ hc)) F1 gd1 (Nat.lt_succ_of_lt l) (by intro q; exact he (List.append_eq_nil_iff.mp q).1) (by rw [List.length_append,sl]; omega)
   (by rw [List.map_append,mkEs_hashes,List.append_assoc]; exact nd) g'
  have it:items (ys ++ zs) ++ rest=items ys ++ (items zs ++ rest):=by unfold items; rw [List.map_append,List.append_assoc]
  rw [it]
  refine GE.mono (ge_chunk hf (by rw [hy.length,cl]) fl next) (by rw [List.length_cons,cl]; omega)
theorem accT_ok {d:Nat}:∀ (chs:List (List Pr)) {T:BT} {n k:Nat} {es:List DictEntry},Full T n → T.get d=some (dObj es es.length) → d < n →
  Full (accT d chs T n k es) (n + chs.length) ∧ (accT d chs T n k es).get d=some (dObj (accE chs k es) (accE chs k es).length)
 | [],T,n,k,es,F,g,l=>⟨F,g⟩
 | c :: r,T,n,k,es,F,g,l=>by
  rw [accT,accE,List.length_cons,show n + (r.length + 1)=n + 1 + r.length by omega]
  refine accT_ok r ((F.ins _).set _) ?_ (Nat.lt_succ_of_lt l)
  rw [BT.get_set,if_pos rfl,BT.ins_get_ne (F.ins_ok _) (Nat.ne_of_lt l),g,List.length_append,mkEs_length]; rfl
theorem ge_display {xs:List (Sem Value × Sem Value)} {c0 last:List Pr} {chs:List (List Pr)} (h:ArePr p w n₀ ann code below xs (c0 ++ (chs.flatten ++ last))) (l0:c0.length=17) (hl:∀ c ∈ chs,c.length=17) (ll:0 < last.length) (ll':last.length ≤ 15)
  (hr:∀ a ∈ last,0 ≤ a.1 ∧ a.1 < 2000000) {T:BT} {n k:Nat} (F:Full T n) (hn0:n₀ ≤ n) (h1:1 < n) (hz:17 + lenL chs + last.length < 100000) (nd:((c0 ++ (chs.flatten ++ last)).map (·.1)).Nodup) {es2:List DictEntry} {T2:BT} {n2 k2:Nat}
  (e1:es2=accE chs (k + 51) (mkEs c0 k)) (e2:T2=accT n chs (T.ins n (dObj (mkEs c0 k) 17)) (n + 1) (k + 51) (mkEs c0 k)) (e3:n2=n + 1 + chs.length) (e4:k2=k + 51 + 3 * lenL chs) :
  GE (cQ p w n₀ ann) p w n₀ ann code below (dictDisplay (items xs)) T n k (.ref n) ((T2.ins n2 (dObj (mkSh last k2) last.length)).set n fun zz=>dObj (es2 ++ mkSh last k2) (es2.length + last.length)) (n2 + 1) (k2 + 3 * last.length) (1000 + 400 * chs.length):=by
 obtain ⟨f,hd,hf⟩:=dd_eq xs
 rw [hd]
 obtain ⟨ys,zs,rfl,hy,hzs⟩:=h.split
 obtain ⟨us,vs,rfl,hu,hv⟩:=hzs.split
 rw [List.map_append,List.map_append] at nd
 have nd0:=List.nodup_append.mp nd
 have nd1:=List.nodup_append.mp nd0.2.1
 have it:items (ys ++ (us ++ vs))=items ys ++ (items us ++ items vs):=by unfold items; rw [List.map_append,List.map_append]
 rw [it]
 have fl0:=ge_flush0 (p:=p) (w:=w) (n₀:=n₀) (ann:=ann) (code:=code) (below:=below) hy (T:=T) (n:=n) (k:=k) (mayUpd_of hn0) (F.ins_ok _) (by omega) (by omega) nd0.1
 rw [l0] at fl0
 have F1:Full (T.ins n (dObj (mkEs c0 k) 17)) (n + 1):=F.ins _
 have gd1:(T.ins n (dObj (mkEs c0 k) 17)).get n=some (dObj (mkEs c0 k) (mkEs c0 k).length):=by rw [BT.ins_get (F.ins_ok _),mkEs_length,l0]
 have hne:mkEs c0 k ≠ []:=by intro q; have:=congrArg List.length q; rw [mkEs_length,l0] at this; simp at this
 subst e1 e2 e3 e4
 have key:GE (cQ p w n₀ ann) p w n₀ ann code below (forIn (items us ++ items vs) (some n,[]) f) (T.ins n (dObj (mkEs c0 k) 17)) (n + 1) (k + 3 * 17) (some n,vs) (accT n chs (T.ins n (dObj (mkEs c0 k) 17)) (n + 1) (k + 51) (mkEs c0 k)) (n + 1 + chs.length) (k + 51 + 3 * lenL chs) (400 * chs.length + 0):=by
  refine ge_chunks hf hn0 h1 chs hu hl F1 gd1 (Nat.lt_succ_self _) hne (by rw [mkEs_length,l0]; exact Nat.lt_of_le_of_lt (Nat.le_add_right _ _) hz) ?_ ?_
  ·rw [mkEs_hashes]
   refine List.nodup_append.mpr ⟨nd0.1,nd1.1,fun a ha b hb=>nd0.2.2 a ha b (List.mem_append_left _ hb)⟩
  ·intro _ _
   have:=ge_lay (p:=p) (w:=w) (n₀:=n₀) (ann:=ann) (code:=code) (below:=below) hf (m:=some n) vs [] (rest:=[]) (by simp; rw [hv.length]; exact Nat.le_succ_of_le ll') (T:=accT n chs (T.ins n (dObj (mkEs c0 k) 17)) (n + 1) (k + 51) (mkEs c0 k)) (n:=n + 1 + chs.length) (k:=k + 51 + 3 * lenL chs) (b:=(some n,vs)) (T':=accT n chs (T.ins n (dObj (mkEs c0 k) 17)) (n + 1) (k + 51) (mkEs c0 k)) (n':=n + 1 + chs.length) (k':=k + 51 + 3 * lenL chs) (B:=0) (by rw [List.nil_append]; exact GE.forNil)
   rw [List.append_nil] at this
   exact this
 have gd2:Full (accT n chs (T.ins n (dObj (mkEs c0 k) 17)) (n + 1) (k + 51) (mkEs c0 k)) (n + 1 + chs.length) ∧ (accT n chs (T.ins n (dObj (mkEs c0 k) 17)) (n + 1) (k + 51) (mkEs c0 k)).get n=some (dObj (accE chs (k + 51) (mkEs c0 k)) (accE chs (k + 51) (mkEs c0 k)).length):=accT_ok chs F1 gd1 (Nat.lt_succ_self _)
 obtain ⟨F2,gd2⟩:=gd2
 have sub:=ge_subShort (p:=p) (w:=w) (n₀:=n₀) (ann:=ann) (code:=code) (below:=below) hv hr (T:=accT n chs (T.ins n (dObj (mkEs c0 k) 17)) (n + 1) (k + 51) (mkEs c0 k)) (n:=n + 1 + chs.length) (k:=k + 51 + 3 * lenL chs) (mayUpd_of (by omega)) (F2.ins_ok _) ll' nd1.2.1
 have sl:(mkSh last (k + 51 + 3 * lenL chs)).length=last.length:=mkSh_length ..
 have fl1:=ge_flush1 (p:=p) (w:=w) (n₀:=n₀) (ann:=ann) (code:=code) (below:=below) (d:=n) (mayUpd_of hn0) hv (mayUpd_of (by omega)) (F2.ins_ok _) gd2 (by exact Nat.le_add_right _ _)
   (by rw [beq_eq_false_iff_ne]; show n + 1 + chs.length ≠ 1; omega) (by intro q; have:=congrArg List.length q; rw [accE_length,mkEs_length,l0] at this; simp at this) (ss:=mkSh last (k + 51 + 3 * lenL chs)) (mkSh_key _ _) (mkSh_hashes _ _) (by rw [sl,accE_length,mkEs_length]; omega)
   (fun e he q=>by
    have:e.hash ∈ (accE chs (k + 51) (mkEs c0 k)).map (·.hash):=List.mem_map_of_mem he
    rw [accE_hashes,mkEs_hashes] at this
    rcases List.mem_append.mp this with h | h
    ·exact nd0.2.2 _ h _ (List.mem_append_right _ q) rfl
    ·exact nd1.2.2 _ h _ q rfl) nd1.2.1 (B:=1 + 13 * last.length) (by rw [sl]; exact sub) ll
 rw [sl] at fl1
 refine GE.mono (B:=(2 + 13 * 17 + (400 * chs.length + 0)) + ((1 + 13 * last.length + (6 + 6 * last.length)) + 0)) ?_ (by omega)
 refine GE.bind (ge_chunk hf (by rw [hy.length,l0]) fl0 key) ?_
 refine GE.bind fl1 ?_
 exact GE.pure
theorem callN_done {m:Nat} {cc:Code} {q q':Pos} {T T':BT} {n k n' k' c e:Nat} {f:Flow} (h:go (callN denQ p w n₀ ann m) p w n₀ ann cc below (denQ cc) q T n k c=some (.ok (.done f),q',T',n',k',c + e)) :
  callN denQ p w n₀ ann (m + 1) cc below q T n k c=some (.ok f,T',n',k',c + (e + 1)):=by
 exact onO_of h rfl
theorem go_run {call:CallT} {cc:Code} {q:Pos} {T T':BT} {n k n' k' c e:Nat} {f:Flow} (h:call cc ((code,q) :: below) q T n k (c + 1)=some (.ok f,T',n',k',c + 1 + e)) :
  go call p w n₀ ann code below (run cc) q T n k c=some (.ok f,q,T',n',k',c + 1 + e):=by
 exact onO_of h rfl
theorem go_stmt {call:CallT} (hc:ShiftOk call) {t:Sem Value} {tail:Value → Sem Flow} {nx:Flow → Sem Flow} {p1 p2 q0 q2:Pos} {T T1 T2:BT} {n k n1 k1 n2 k2 B d:Nat} {v:Value}
  (h:GE call p w n₀ ann code below t T n k v T1 n1 k1 B) (ht:∀ q,go call p w n₀ ann code below (tail v) q T1 n1 k1 0=some (.ok .next,q2,T2,n2,k2,d)) (hn:nx .next=pure .next) :
  ∀ c,∃ e,e ≤ B + d + 2 ∧ go call p w n₀ ann code below ((standAt p1 >>= fun zz=>((standAt p2 >>= fun zz=>t) >>= tail)) >>= nx) q0 T n k c=some (.ok .next,q2,T2,n2,k2,c + e):=fun c=>by
 obtain ⟨e,q',h1,h2⟩:=h p2 (c + 1 + 1)
 refine ⟨1 + 1 + e + d,by omega,?_⟩
 have h3:=go_shift hc _ (c + 1 + 1 + e) (ht q')
 rw [Nat.add_zero] at h3
 have s1:∀ (x:Pos) (q:Pos) (T:BT) (n k c:Nat),go call p w n₀ ann code below (standAt x) q T n k c=some (.ok (),x,T,n,k,c + 1):=fun zz zz zz zz zz zz=>rfl
 rw [go_bind',go_bind',s1]
 show thenR (go call p w n₀ ann code below ((standAt p2 >>= fun zz=>t) >>= tail) p1 T n k (c + 1)) _=_
 rw [go_bind',go_bind',s1]
 show thenR (thenR (go call p w n₀ ann code below t p2 T n k (c + 1 + 1)) _) _=_
 rw [h2]
 show thenR (go call p w n₀ ann code below (tail v) q' T1 n1 k1 (c + 1 + 1 + e)) _=_
 rw [h3]
 show go call p w n₀ ann code below (nx .next) q2 T2 n2 k2 (c + 1 + 1 + e + d)=_
 rw [hn,show c + 1 + 1 + e + d=c + (1 + 1 + e + d) by omega]
 rfl
end
noncomputable section
noncomputable abbrev pw:Program:=PySem.Challenge.pw_sr0089_02
noncomputable def N (s:String):PySem.Str:=PySem.Str.ofString s
noncomputable def S (s:String) (t:Nat):Value:=.str (PySem.Str.ofString s) t
noncomputable def E (P:Params) (s:String) (t:Nat) (v:Value):DictEntry:=⟨PyData.keyHash P (PySem.Str.ofString s),.str (PySem.Str.ofString s) t,v⟩
noncomputable def dropN {α:Type}:Nat → List α → List α
 | 0,l=>l
 | _ + 1,[]=>[]
 | n + 1,_ :: l=>dropN n l
noncomputable def takeN {α:Type}:Nat → List α → List α
 | 0,_=>[]
 | _ + 1,[]=>[]
 | n + 1,x :: l=>x :: takeN n l
noncomputable def headS:List Stmt → Stmt
 | s :: _=>s
 | []=>.Pass default
noncomputable def stN (i:Nat):Stmt:=headS (dropN i pw.main.body)
noncomputable def clsB:Stmt → List Stmt
 | .ClassDef _ _ _ b _ _ _ _ _ _ _=>b
 | _=>[]
noncomputable def stC (i j:Nat):Stmt:=headS (dropN j (clsB (stN i)))
noncomputable def fArgs:Stmt → Arguments
 | .FunctionDef _ a _ _ _ _ _ _ _ _=>a
 | _=>default
noncomputable def fBody:Stmt → List Stmt
 | .FunctionDef _ _ b _ _ _ _ _ _ _=>b
 | _=>[]
noncomputable def fScope:Stmt → Scope
 | .FunctionDef _ _ _ _ _ _ s _ _ _=>s
 | _=>default
noncomputable def part (i n:Nat):List Stmt:=takeN n (dropN i pw.main.body)
noncomputable def env0:Env:={ scope:=pw.main.scope,locals:=mainNs,globals:=mainNs,cells:=[],code:=.ref 13,frame:=some 14 }
noncomputable def code0:Code:=.body (behindTheImports pw) env0
noncomputable def below0:List (Code × Pos):=[(.builtin "claim.caller" {},⟨0,0,0,0⟩)]
noncomputable def goS (w:World) (l:List Stmt) (q:Pos) (T:BT) (n k:Nat):Res (Except Value Flow):=go (cQ pw w 11 (some (.ref 6))) pw w 11 (some (.ref 6)) code0 below0 (execsQ l env0) q T n k 0
noncomputable def keysB:List (Option PySem.Expr):=match stN 10 with
 | .Assign _ (.Dict ks _ _) _=>ks
 | _=>[]
noncomputable def valsB:List PySem.Expr:=match stN 10 with
 | .Assign _ (.Dict _ vs _) _=>vs
 | _=>[]
noncomputable def posB:Pos:=match stN 10 with
 | .Assign _ (.Dict _ _ p) _=>p
 | _=>default
noncomputable def keyI:Option PySem.Expr → Option Int
 | some (.Constant (.int i) _ _)=>some i
 | _=>none
noncomputable def txtS:PySem.Expr → Option PySem.Str
 | .Constant (.str s) _ _=>some s
 | _=>none
noncomputable def prOf (k:Option PySem.Expr) (v:PySem.Expr):Option Pr:=onO (keyI k) fun i=>onO (txtS v) fun s=>onB (decide (0 ≤ i) && decide (i < 2000000)) (some (i,s))
noncomputable def prsOf:List (Option PySem.Expr) → List PySem.Expr → Option (List Pr)
 | k :: ks,v :: vs=>match prOf k v with
  | some a=>match prsOf ks vs with
   | some as=>some (a :: as)
   | none=>none
  | none=>none
 | [],[]=>some []
 | _,_=>none
noncomputable def b3p:List Pr:=match prsOf keysB valsB with
 | some l=>l
 | none=>[]
noncomputable def b3c0:List Pr:=takeN 17 b3p
noncomputable def b3last:List Pr:=dropN 646 b3p
noncomputable def chunksN:Nat → List Pr → List (List Pr)
 | 0,_=>[]
 | n + 1,l=>takeN 17 l :: chunksN n (dropN 17 l)
noncomputable def b3chs:List (List Pr):=chunksN 37 (dropN 17 b3p)
noncomputable def esB:List DictEntry:=accE b3chs 468 (mkEs b3c0 417)
noncomputable def nthSub:List (List Pr) → Nat → Nat → Obj
 | [],_,_=>default
 | c :: _,k,0=>dObj (mkEs c k) c.length
 | c :: r,k,j + 1=>nthSub r (k + 3 * c.length) j
noncomputable def b3o:Nat → Obj
 | 0=>dObj (esB ++ mkSh b3last 2355) (esB.length + 4)
 | 38=>dObj (mkSh b3last 2355) 4
 | j + 1=>nthSub b3chs 468 j
noncomputable def K:Obj → BT → BT → BT:=.node
noncomputable def L (o:Obj):BT:=.node o .nil .nil
noncomputable def i (n:Nat):Value:=.int n 0
noncomputable def r (n:Nat):Value:=.ref n
noncomputable def FO (t:Value) (a b:String) (x:Stmt) (g:Nat) (m c:Value):Obj:=⟨t,none,.func { name:=N a,qualname:=N b,params:=fArgs x,body:=.stmts (fBody x),scope:=fScope x,globals:=g,closure:=[],defaults:=.none,kwdefaults:=.none,doc:=.none,pyModule:=m,annotations:=none,code:=c,closureTuple:=.none,builtins:=0 },#[]⟩
noncomputable def CO (a:String) (a':Nat) (b:String) (b' c d e f g h j:Nat) (k:Bool) (l m:Nat) (o p q u:Value) (v w x:Nat):Obj:=⟨.type "code",none,.fields #[S a a',S b b',S "/claim/cut.py" c,i d,i e,i f,i g,i h,.ref j,.bool k,i l,.ref m,o,p,q,u,i v,i w,S "/claim/cut.py" x],#[]⟩
noncomputable def FI (t:Value) (l:Array Value):Obj:=⟨t,none,.fields l,#[]⟩
noncomputable def DI (l:Array DictEntry) (n:Nat):Obj:=⟨.type "dict",none,.dict l n,#[]⟩
noncomputable def o11_0:Obj:=⟨(.type "tuple"),none,(.seq #[] 0),#[]⟩
noncomputable def o12_0:Obj:=FI .none #[]
noncomputable def o13_0:Obj:=CO "<module>" 182 "<module>" 183 184 1 0 0 0 0 11 false 181 12 .none .none .none .none 185 1 186
noncomputable def o14_0:Obj:=⟨(.type "frame"),none,.plain,#[(some (.ref 13)),(some (.ref 3)),(some (.ref 3)),none,(some (S "__main__" 164)),none,(some (.ref 0))]⟩
noncomputable def tr0 (P:Params):BT:=K (boot_o_0 P) (K (boot_o_1 P) (K (boot_o_3 P) (L (boot_o_7 P)) (L o11_0)) (K (boot_o_5 P) (L (boot_o_9 P)) (L o13_0))) (K (boot_o_2 P) (K (boot_o_4 P) (L (boot_o_8 P)) (L o12_0)) (K (boot_o_6 P) (L (boot_o_10 P)) (L o14_0)))
noncomputable def o3_1 (P:Params):Obj:=DI #[E P "__name__" 165 (S "cpy313.tabnanny" 194),E P "__doc__" 166 .none,E P "__package__" 167 .none,E P "__loader__" 168 (.builtin "__main__.__loader__#opaque"),E P "__spec__" 169 .none,E P "__annotations__" 170 (r 6),E P "__builtins__" 171 (r 4),E P "__file__" 173 (S "/claim/cut.py" 172),E P "__cached__" 174 .none,E P "_wall" 193 (r 21)] 10
noncomputable def o12_1:Obj:=FI .none #[i 1,i 0,.ref 20]
noncomputable def o17_1:Obj:=⟨(.type "tuple"),none,(.seq #[(S "k" 190)] 0),#[]⟩
noncomputable def o19_1:Obj:=FO .none "_wall" "_wall" (stN 0) 0 .none .none
noncomputable def o20_1:Obj:=CO "_wall" 187 "_wall" 188 189 1 1 0 0 3 15 true 181 16 .none (.ref 17) (.ref 18) (.ref 19) 191 1 192
noncomputable def o21_1:Obj:=FO (.type "function") "_wall" "_wall" (stN 0) 3 (S "__main__" 164) (.ref 20)
noncomputable def tr1 (P:Params):BT:=K (boot_o_0 P) (K (boot_o_1 P) (K (o3_1 P) (K (boot_o_7 P) (L o11_0) .nil) (K o11_0 (L o19_1) .nil)) (K (boot_o_5 P) (K (boot_o_9 P) (L o17_1) .nil) (K o13_0 (L o21_1) .nil))) (K (boot_o_2 P) (K (boot_o_4 P) (K (boot_o_8 P) (L o12_0) .nil) (K o12_1 (L o20_1) .nil)) (K (boot_o_6 P) (K (boot_o_10 P) (L o11_0) .nil) (L o14_0)))
noncomputable def o3_2 (P:Params):Obj:=DI #[E P "__name__" 165 (S "cpy313.tabnanny" 194),E P "__doc__" 166 .none,E P "__package__" 167 .none,E P "__loader__" 168 (.builtin "__main__.__loader__#opaque"),E P "__spec__" 169 .none,E P "__annotations__" 170 (r 6),E P "__builtins__" 171 (r 4),E P "__file__" 173 (S "/claim/cut.py" 172),E P "__cached__" 174 .none,E P "_wall" 193 (r 21),E P "Whitespace" 295 (r 83)] 11
noncomputable def o12_2:Obj:=FI .none #[i 1,i 0,.ref 20,i 5,i 0,.ref 27]
noncomputable def o23_2:Obj:=FI (.type "builtin_function_or_method") #[(.builtin "type.__prepare__"),(.type "type")]
noncomputable def o24_2 (P:Params):Obj:=DI #[E P "__module__" 203 (S "cpy313.tabnanny" 194),E P "__qualname__" 205 (S "Whitespace" 204),E P "__firstlineno__" 207 (.int 5 206),E P "S" 211 (S " " 209),E P "T" 212 (S "\t" 210),E P "__init__" 227 (r 38),E P "longest_run_of_spaces" 236 (r 45),E P "indent_level" 248 (r 52),E P "equal" 256 (r 59),E P "not_equal_witness" 264 (r 66),E P "less" 274 (r 73),E P "not_less_witness" 282 (r 80),E P "__static_attributes__" 288 (r 81)] 13
noncomputable def o26_2:Obj:=FI .none #[i 8,i 4,.ref 37,i 31,i 4,.ref 44,i 35,i 4,.ref 51,i 42,i 4,.ref 58,i 45,i 4,.ref 65,i 48,i 4,.ref 72,i 59,i 4,.ref 79]
noncomputable def o27_2:Obj:=CO "Whitespace" 198 "Whitespace" 199 200 5 0 0 0 0 25 false 181 26 .none .none .none .none 201 5 202
noncomputable def o28_2:Obj:=⟨(.type "frame"),none,.plain,#[(some (.ref 27)),(some (.ref 3)),(some (.ref 24)),none,(some (S "cpy313.tabnanny" 194)),none,(some (.ref 0))]⟩
noncomputable def o29_2:Obj:=FI (.type "str_ascii_iterator") #[.none,i 2]
noncomputable def o31_2:Obj:=FI (.type "StopIteration") #[.ref 30,.none,.none,.none,(.bool false),.none]
noncomputable def o34_2:Obj:=⟨(.type "tuple"),none,(.seq #[(S "self" 216),(S "ws" 217),(S "S" 218),(S "T" 219),(S "count" 220),(S "b" 221),(S "n" 222),(S "nt" 223),(S "ch" 224)] 0),#[]⟩
noncomputable def o36_2:Obj:=FO .none "__init__" "Whitespace.__init__" (stC 2 1) 0 .none .none
noncomputable def o37_2:Obj:=CO "__init__" 213 "Whitespace.__init__" 214 215 8 2 0 0 3 32 true 181 33 .none (.ref 34) (.ref 35) (.ref 36) 225 8 226
noncomputable def o38_2:Obj:=FO (.type "function") "__init__" "Whitespace.__init__" (stC 2 1) 3 (S "cpy313.tabnanny" 194) (.ref 37)
noncomputable def o41_2:Obj:=⟨(.type "tuple"),none,(.seq #[(S "self" 231),(S "count" 232),(S "trailing" 233)] 0),#[]⟩
noncomputable def o43_2:Obj:=FO .none "longest_run_of_spaces" "Whitespace.longest_run_of_spaces" (stC 2 2) 0 .none .none
noncomputable def o44_2:Obj:=CO "longest_run_of_spaces" 228 "Whitespace.longest_run_of_spaces" 229 230 31 1 0 0 3 39 true 181 40 .none (.ref 41) (.ref 42) (.ref 43) 234 31 235
noncomputable def o45_2:Obj:=FO (.type "function") "longest_run_of_spaces" "Whitespace.longest_run_of_spaces" (stC 2 2) 3 (S "cpy313.tabnanny" 194) (.ref 44)
noncomputable def o48_2:Obj:=⟨(.type "tuple"),none,(.seq #[(S "self" 240),(S "tabsize" 241),(S "count" 242),(S "trailing" 243),(S "il" 244),(S "i" 245)] 0),#[]⟩
noncomputable def o50_2:Obj:=FO .none "indent_level" "Whitespace.indent_level" (stC 2 3) 0 .none .none
noncomputable def o51_2:Obj:=CO "indent_level" 237 "Whitespace.indent_level" 238 239 35 2 0 0 3 46 true 181 47 .none (.ref 48) (.ref 49) (.ref 50) 246 35 247
noncomputable def o52_2:Obj:=FO (.type "function") "indent_level" "Whitespace.indent_level" (stC 2 3) 3 (S "cpy313.tabnanny" 194) (.ref 51)
noncomputable def o55_2:Obj:=⟨(.type "tuple"),none,(.seq #[(S "self" 252),(S "other" 253)] 0),#[]⟩
noncomputable def o57_2:Obj:=FO .none "equal" "Whitespace.equal" (stC 2 4) 0 .none .none
noncomputable def o58_2:Obj:=CO "equal" 249 "Whitespace.equal" 250 251 42 2 0 0 3 53 true 181 54 .none (.ref 55) (.ref 56) (.ref 57) 254 42 255
noncomputable def o59_2:Obj:=FO (.type "function") "equal" "Whitespace.equal" (stC 2 4) 3 (S "cpy313.tabnanny" 194) (.ref 58)
noncomputable def o62_2:Obj:=⟨(.type "tuple"),none,(.seq #[(S "self" 260),(S "other" 261)] 0),#[]⟩
noncomputable def o64_2:Obj:=FO .none "not_equal_witness" "Whitespace.not_equal_witness" (stC 2 5) 0 .none .none
noncomputable def o65_2:Obj:=CO "not_equal_witness" 257 "Whitespace.not_equal_witness" 258 259 45 2 0 0 3 60 true 181 61 .none (.ref 62) (.ref 63) (.ref 64) 262 45 263
noncomputable def o66_2:Obj:=FO (.type "function") "not_equal_witness" "Whitespace.not_equal_witness" (stC 2 5) 3 (S "cpy313.tabnanny" 194) (.ref 65)
noncomputable def o69_2:Obj:=⟨(.type "tuple"),none,(.seq #[(S "self" 268),(S "other" 269),(S "n" 270),(S "ts" 271)] 0),#[]⟩
noncomputable def o71_2:Obj:=FO .none "less" "Whitespace.less" (stC 2 6) 0 .none .none
noncomputable def o72_2:Obj:=CO "less" 265 "Whitespace.less" 266 267 48 2 0 0 3 67 true 181 68 .none (.ref 69) (.ref 70) (.ref 71) 272 48 273
noncomputable def o73_2:Obj:=FO (.type "function") "less" "Whitespace.less" (stC 2 6) 3 (S "cpy313.tabnanny" 194) (.ref 72)
noncomputable def o76_2:Obj:=⟨(.type "tuple"),none,(.seq #[(S "self" 278),(S "other" 279)] 0),#[]⟩
noncomputable def o78_2:Obj:=FO .none "not_less_witness" "Whitespace.not_less_witness" (stC 2 7) 0 .none .none
noncomputable def o79_2:Obj:=CO "not_less_witness" 275 "Whitespace.not_less_witness" 276 277 59 2 0 0 3 74 true 181 75 .none (.ref 76) (.ref 77) (.ref 78) 280 59 281
noncomputable def o80_2:Obj:=FO (.type "function") "not_less_witness" "Whitespace.not_less_witness" (stC 2 7) 3 (S "cpy313.tabnanny" 194) (.ref 79)
noncomputable def o81_2:Obj:=⟨(.type "tuple"),none,(.seq #[(S "is_simple" 283),(S "n" 284),(S "norm" 285),(S "nt" 286),(S "raw" 287)] 0),#[]⟩
noncomputable def o82_2 (P:Params):Obj:=DI #[E P "__module__" 203 (S "cpy313.tabnanny" 194),E P "__firstlineno__" 207 (.int 5 206),E P "S" 211 (S " " 209),E P "T" 212 (S "\t" 210),E P "__init__" 227 (r 38),E P "longest_run_of_spaces" 236 (r 45),E P "indent_level" 248 (r 52),E P "equal" 256 (r 59),E P "not_equal_witness" 264 (r 66),E P "less" 274 (r 73),E P "not_less_witness" 282 (r 80),E P "__static_attributes__" 288 (r 81),E P "__dict__" 290 (r 84),E P "__weakref__" 292 (r 85),E P "__doc__" 293 .none] 4
noncomputable def o83_2:Obj:=⟨(.type "type"),none,(.cls { name:=(N "Whitespace"),bases:=[(.type "object")],mro:=[(.ref 83),(.type "object")],ns:=82,qualname:=(N "Whitespace"),hasDict:=true,slotNames:=[],subclasses:=[],abstract:=false,collection:=none,hasDel:=false }),#[none,none,(some (S "Whitespace" 196)),(some (S "Whitespace" 204)),(some (.builtin "object.__new__")),(some (.bool true))]⟩
noncomputable def o84_2:Obj:=FI (.type "getset_descriptor") #[(S "__dict__" 289),.ref 83,(.builtin "function.__dict__"),(.builtin "function.__dict__#set")]
noncomputable def o85_2:Obj:=FI (.type "getset_descriptor") #[(S "__weakref__" 291),.ref 83,(.builtin "ExceptionGroup.__weakref__"),.none]
noncomputable def o86_2:Obj:=FI (.type "super") #[.ref 83,.ref 83,.ref 83]
noncomputable def o87_2:Obj:=FI (.type "builtin_function_or_method") #[(.builtin "object.__init_subclass__"),.ref 83]
noncomputable def y0:BT:=K o12_0 (L o79_2) .nil
noncomputable def y1:BT:=K o55_2 (L o87_2) .nil
noncomputable def y2:BT:=K o23_2 (K o11_0 (L o71_2) .nil) y1
noncomputable def y3 (P:Params):BT:=K (boot_o_7 P) (K o11_0 (K o31_2 (L o11_0) .nil) y0) y2
noncomputable def y4:BT:=K o11_0 (L o11_0) .nil
noncomputable def y5:BT:=K o51_2 (L o83_2) .nil
noncomputable def y6:BT:=K o43_2 (L o12_0) .nil
noncomputable def y7:BT:=K o11_0 (K o19_1 y4 y5) (K o27_2 y6 (L o59_2))
noncomputable def y8:BT:=K o11_0 (L o81_2) .nil
noncomputable def y9:BT:=K o41_2 (L o73_2) .nil
noncomputable def y10:BT:=K o11_0 (L o85_2) .nil
noncomputable def y11:BT:=K o45_2 (L o11_0) .nil
noncomputable def y12 (P:Params):BT:=K (boot_o_5 P) (K (boot_o_9 P) (K o17_1 (K o12_0 (L o65_2) .nil) y8) (K o11_0 y9 (L o57_2))) (K o13_0 (K o21_1 (K o37_2 (L o69_2) .nil) y10) (K o29_2 y11 (L o12_0)))
noncomputable def y13:BT:=K o48_2 (L o80_2) .nil
noncomputable def y14:BT:=K o12_0 (K o11_0 (L o64_2) .nil) y13
noncomputable def y15:BT:=K o12_0 (L o72_2) .nil
noncomputable def y16:BT:=K o52_2 (L o84_2) .nil
noncomputable def y17:BT:=K o44_2 (L o76_2) .nil
noncomputable def y18:BT:=K o12_2 (K o20_1 (K o36_2 (L o12_0) .nil) y16) (K o28_2 y17 (L o11_0))
noncomputable def y19 (P:Params):BT:=K o50_2 (L (o82_2 P)) .nil
noncomputable def y20:BT:=K o12_0 (L o86_2) .nil
noncomputable def y21:BT:=K o11_0 (L o78_2) .nil
noncomputable def y22 (P:Params):BT:=K (boot_o_6 P) (K (boot_o_10 P) (K o11_0 (K o34_2 (L o66_2) .nil) (y19 P)) (K o26_2 y4 (L o58_2))) (K o14_0 (K o11_0 (K o38_2 (L o11_0) .nil) y20) (K o11_0 y21 (L o62_2)))
noncomputable def y23 (P:Params):BT:=K (boot_o_2 P) (K (boot_o_4 P) (K (boot_o_8 P) y14 (K (o24_2 P) y15 (L o11_0))) y18) (y22 P)
noncomputable def tr2 (P:Params):BT:=K (boot_o_0 P) (K (boot_o_1 P) (K (o3_2 P) (y3 P) y7) (y12 P)) (y23 P)
noncomputable def o3_3 (P:Params):Obj:=DI #[E P "__name__" 165 (S "cpy313.dis" 296),E P "__doc__" 166 .none,E P "__package__" 167 .none,E P "__loader__" 168 (.builtin "__main__.__loader__#opaque"),E P "__spec__" 169 .none,E P "__annotations__" 170 (r 6),E P "__builtins__" 171 (r 4),E P "__file__" 173 (S "/claim/cut.py" 172),E P "__cached__" 174 .none,E P "_wall" 193 (r 21),E P "Whitespace" 295 (r 83)] 11
noncomputable def tr3 (P:Params):BT:=K (boot_o_0 P) (K (boot_o_1 P) (K (o3_3 P) (y3 P) y7) (y12 P)) (y23 P)
noncomputable def o3_4 (P:Params):Obj:=DI #[E P "__name__" 165 (S "cpy313.dis" 296),E P "__doc__" 166 .none,E P "__package__" 167 .none,E P "__loader__" 168 (.builtin "__main__.__loader__#opaque"),E P "__spec__" 169 .none,E P "__annotations__" 170 (r 6),E P "__builtins__" 171 (r 4),E P "__file__" 173 (S "/claim/cut.py" 172),E P "__cached__" 174 .none,E P "_wall" 193 (r 21),E P "Whitespace" 295 (r 83),E P "COMPILER_FLAG_NAMES" 328 (r 88)] 12
noncomputable def o88_4:Obj:=DI #[⟨1,(.int 1 298),(S "OPTIMIZED" 299)⟩,⟨2,(.int 2 300),(S "NEWLOCALS" 301)⟩,⟨4,(.int 4 302),(S "VARARGS" 303)⟩,⟨8,(.int 8 304),(S "VARKEYWORDS" 305)⟩,⟨16,(.int 16 306),(S "NESTED" 307)⟩,⟨32,(.int 32 308),(S "GENERATOR" 309)⟩,⟨64,(.int 64 310),(S "NOFREE" 311)⟩,⟨128,(.int 128 312),(S "COROUTINE" 313)⟩,⟨256,(.int 256 314),(S "ITERABLE_COROUTINE" 315)⟩,⟨512,(.int 512 316),(S "ASYNC_GENERATOR" 317)⟩] 10
noncomputable def y24:BT:=K o11_0 (L o88_4) .nil
noncomputable def y25 (P:Params):BT:=K (o24_2 P) y15 y24
noncomputable def tr4 (P:Params):BT:=K (boot_o_0 P) (K (boot_o_1 P) (K (o3_4 P) (y3 P) y7) (y12 P)) (K (boot_o_2 P) (K (boot_o_4 P) (K (boot_o_8 P) y14 (y25 P)) y18) (y22 P))
noncomputable def o3_5 (P:Params):Obj:=DI #[E P "__name__" 165 (S "cpy313.stringprep" 348),E P "__doc__" 166 .none,E P "__package__" 167 .none,E P "__loader__" 168 (.builtin "__main__.__loader__#opaque"),E P "__spec__" 169 .none,E P "__annotations__" 170 (r 6),E P "__builtins__" 171 (r 4),E P "__file__" 173 (S "/claim/cut.py" 172),E P "__cached__" 174 .none,E P "_wall" 193 (r 21),E P "Whitespace" 295 (r 83),E P "COMPILER_FLAG_NAMES" 328 (r 88),E P "pretty_flags" 338 (r 95),E P "_parse_varint" 347 (r 102)] 14
noncomputable def o12_5:Obj:=FI .none #[i 1,i 0,.ref 20,i 5,i 0,.ref 27,i 63,i 0,.ref 94,i 75,i 0,.ref 101]
noncomputable def o91_5:Obj:=⟨(.type "tuple"),none,(.seq #[(S "flags" 332),(S "names" 333),(S "i" 334),(S "flag" 335)] 0),#[]⟩
noncomputable def o93_5:Obj:=FO .none "pretty_flags" "pretty_flags" (stN 5) 0 .none .none
noncomputable def o94_5:Obj:=CO "pretty_flags" 329 "pretty_flags" 330 331 63 1 0 0 3 89 true 181 90 .none (.ref 91) (.ref 92) (.ref 93) 336 63 337
noncomputable def o95_5:Obj:=FO (.type "function") "pretty_flags" "pretty_flags" (stN 5) 3 (S "cpy313.dis" 296) (.ref 94)
noncomputable def o98_5:Obj:=⟨(.type "tuple"),none,(.seq #[(S "iterator" 342),(S "b" 343),(S "val" 344)] 0),#[]⟩
noncomputable def o100_5:Obj:=FO .none "_parse_varint" "_parse_varint" (stN 6) 0 .none .none
noncomputable def o101_5:Obj:=CO "_parse_varint" 339 "_parse_varint" 340 341 75 1 0 0 3 96 true 181 97 .none (.ref 98) (.ref 99) (.ref 100) 345 75 346
noncomputable def o102_5:Obj:=FO (.type "function") "_parse_varint" "_parse_varint" (stN 6) 3 (S "cpy313.dis" 296) (.ref 101)
noncomputable def y26:BT:=K o31_2 (L o11_0) (L o95_5)
noncomputable def y27:BT:=K o11_0 (L o11_0) (L o11_0)
noncomputable def y28:BT:=K o19_1 y27 y5
noncomputable def y29:BT:=K o59_2 (L o91_5) .nil
noncomputable def y30:BT:=K o12_0 (L o65_2) (L o12_0)
noncomputable def y31:BT:=K o57_2 (L o11_0) .nil
noncomputable def y32:BT:=K o37_2 (L o69_2) (L o101_5)
noncomputable def y33:BT:=K o21_1 y32 y10
noncomputable def y34:BT:=K o12_0 (L o93_5) .nil
noncomputable def y35:BT:=K o11_0 (L o64_2) (L o11_0)
noncomputable def y36:BT:=K o36_2 (L o12_0) (L o100_5)
noncomputable def y37:BT:=K o20_1 y36 y16
noncomputable def y38:BT:=K o34_2 (L o66_2) (L o98_5)
noncomputable def y39 (P:Params):BT:=K o11_0 y38 (y19 P)
noncomputable def y40:BT:=K o58_2 (L o12_0) .nil
noncomputable def y41:BT:=K o38_2 (L o11_0) (L o102_5)
noncomputable def y42:BT:=K o11_0 y41 y20
noncomputable def y43:BT:=K o62_2 (L o94_5) .nil
noncomputable def tr5 (P:Params):BT:=K (boot_o_0 P) (K (boot_o_1 P) (K (o3_5 P) (K (boot_o_7 P) (K o11_0 y26 y0) y2) (K o11_0 y28 (K o27_2 y6 y29))) (K (boot_o_5 P) (K (boot_o_9 P) (K o17_1 y30 y8) (K o11_0 y9 y31)) (K o13_0 y33 (K o29_2 y11 y34)))) (K (boot_o_2 P) (K (boot_o_4 P) (K (boot_o_8 P) (K o12_0 y35 y13) (y25 P)) (K o12_5 y37 (K o28_2 y17 y4))) (K (boot_o_6 P) (K (boot_o_10 P) (y39 P) (K o26_2 y4 y40)) (K o14_0 y42 (K o11_0 y21 y43))))
noncomputable def o3_6 (P:Params):Obj:=DI #[E P "__name__" 165 (S "cpy313.stringprep" 348),E P "__doc__" 166 .none,E P "__package__" 167 .none,E P "__loader__" 168 (.builtin "__main__.__loader__#opaque"),E P "__spec__" 169 .none,E P "__annotations__" 170 (r 6),E P "__builtins__" 171 (r 4),E P "__file__" 173 (S "/claim/cut.py" 172),E P "__cached__" 174 .none,E P "_wall" 193 (r 21),E P "Whitespace" 295 (r 83),E P "COMPILER_FLAG_NAMES" 328 (r 88),E P "pretty_flags" 338 (r 95),E P "_parse_varint" 347 (r 102),E P "b1_set" 409 (r 110)] 15
noncomputable def o103_6:Obj:=⟨(.type "list"),none,(.seq #[(.int 173 350),(.int 847 351),(.int 6150 352),(.int 6155 353),(.int 6156 354),(.int 6157 355),(.int 8203 356),(.int 8204 357),(.int 8205 358),(.int 8288 359),(.int 65279 360)] 0),#[]⟩
noncomputable def o104_6:Obj:=FI (.type "range") #[(.int 65024 361),(.int 65040 362),(.int 1 363)]
noncomputable def o105_6:Obj:=⟨(.type "list"),none,(.seq #[(.int 65024 366),(.int 65025 367),(.int 65026 368),(.int 65027 369),(.int 65028 370),(.int 65029 371),(.int 65030 372),(.int 65031 373),(.int 65032 374),(.int 65033 375),(.int 65034 376),(.int 65035 377),(.int 65036 378),(.int 65037 379),(.int 65038 380),(.int 65039 381)] 18),#[]⟩
noncomputable def o106_6:Obj:=FI (.type "range_iterator") #[i 65040,i 0,i 1]
noncomputable def o108_6:Obj:=FI (.type "StopIteration") #[.ref 107,.none,.none,.none,(.bool false),.none]
noncomputable def o109_6:Obj:=⟨(.type "list"),none,(.seq #[(.int 173 350),(.int 847 351),(.int 6150 352),(.int 6155 353),(.int 6156 354),(.int 6157 355),(.int 8203 356),(.int 8204 357),(.int 8205 358),(.int 8288 359),(.int 65279 360),(.int 65024 366),(.int 65025 367),(.int 65026 368),(.int 65027 369),(.int 65028 370),(.int 65029 371),(.int 65030 372),(.int 65031 373),(.int 65032 374),(.int 65033 375),(.int 65034 376),(.int 65035 377),(.int 65036 378),(.int 65037 379),(.int 65038 380),(.int 65039 381)] 0),#[]⟩
noncomputable def o110_6 (P:Params):Obj:=⟨(.type "set"),none,(.set #[(65024,(.int 65024 366)),(65025,(.int 65025 367)),(65026,(.int 65026 368)),(65027,(.int 65027 369)),(65028,(.int 65028 370)),(65029,(.int 65029 371)),(6150,(.int 6150 352)),(65030,(.int 65030 372)),(65031,(.int 65031 373)),(65032,(.int 65032 374)),(65033,(.int 65033 375)),(6155,(.int 6155 353)),(6156,(.int 6156 354)),(6157,(.int 6157 355)),(8203,(.int 8203 356)),(8204,(.int 8204 357)),(8205,(.int 8205 358)),(65034,(.int 65034 376)),(65035,(.int 65035 377)),(65036,(.int 65036 378)),(65037,(.int 65037 379)),(65038,(.int 65038 380)),(65039,(.int 65039 381)),(173,(.int 173 350)),(847,(.int 847 351)),(8288,(.int 8288 359)),(65279,(.int 65279 360))] 29 { mask:=127,place:=#[0,1,2,3,4,5,6,7,8,9,10,11,12,13,14,15,16,17,18,19,20,21,22,45,79,96,127],dummies:=#[],finger:=0,led:=!P.followText "set-order",moves:=2,plain:=true }),#[]⟩
noncomputable def o111_6:Obj:=FI (.type "list_iterator") #[.none,i 27]
noncomputable def o113_6:Obj:=FI (.type "StopIteration") #[.ref 112,.none,.none,.none,(.bool false),.none]
noncomputable def y44:BT:=K o11_0 y26 (K o12_0 (L o79_2) (L o111_6))
noncomputable def y45:BT:=K o11_0 (L o71_2) (L o103_6)
noncomputable def y46:BT:=K o27_2 (K o43_2 (L o12_0) (L o11_0)) y29
noncomputable def y47 (P:Params):BT:=K (boot_o_9 P) (K o17_1 y30 (K o11_0 (L o81_2) (L o113_6))) (K o11_0 (K o41_2 (L o73_2) (L o105_6)) y31)
noncomputable def y48:BT:=K o29_2 (K o45_2 (L o11_0) (L o109_6)) y34
noncomputable def y49:BT:=K o12_0 y35 (K o48_2 (L o80_2) (L o11_0))
noncomputable def y50:BT:=K o12_0 (L o72_2) (L o104_6)
noncomputable def y51:BT:=K o28_2 (K o44_2 (L o76_2) (L o108_6)) y4
noncomputable def y52:BT:=K o26_2 (K o11_0 (L o11_0) (L o106_6)) y40
noncomputable def y53 (P:Params):BT:=K o11_0 (K o11_0 (L o78_2) (L (o110_6 P))) y43
noncomputable def tr6 (P:Params):BT:=K (boot_o_0 P) (K (boot_o_1 P) (K (o3_6 P) (K (boot_o_7 P) y44 (K o23_2 y45 y1)) (K o11_0 y28 y46)) (K (boot_o_5 P) (y47 P) (K o13_0 y33 y48))) (K (boot_o_2 P) (K (boot_o_4 P) (K (boot_o_8 P) y49 (K (o24_2 P) y50 y24)) (K o12_5 y37 y51)) (K (boot_o_6 P) (K (boot_o_10 P) (y39 P) y52) (K o14_0 y42 (y53 P))))
noncomputable def o3_7 (P:Params):Obj:=DI #[E P "__name__" 165 (S "cpy313.stringprep" 348),E P "__doc__" 166 .none,E P "__package__" 167 .none,E P "__loader__" 168 (.builtin "__main__.__loader__#opaque"),E P "__spec__" 169 .none,E P "__annotations__" 170 (r 6),E P "__builtins__" 171 (r 4),E P "__file__" 173 (S "/claim/cut.py" 172),E P "__cached__" 174 .none,E P "_wall" 193 (r 21),E P "Whitespace" 295 (r 83),E P "COMPILER_FLAG_NAMES" 328 (r 88),E P "pretty_flags" 338 (r 95),E P "_parse_varint" 347 (r 102),E P "b1_set" 409 (r 110),E P "in_table_b1" 416 (r 120)] 16
noncomputable def o12_7:Obj:=FI .none #[i 1,i 0,.ref 20,i 5,i 0,.ref 27,i 63,i 0,.ref 94,i 75,i 0,.ref 101,i 85,i 0,.ref 119]
noncomputable def o116_7:Obj:=⟨(.type "tuple"),none,(.seq #[(S "code" 413)] 0),#[]⟩
noncomputable def o118_7:Obj:=FO .none "in_table_b1" "in_table_b1" (stN 9) 0 .none .none
noncomputable def o119_7:Obj:=CO "in_table_b1" 410 "in_table_b1" 411 412 85 1 0 0 3 114 true 181 115 .none (.ref 116) (.ref 117) (.ref 118) 414 85 415
noncomputable def o120_7:Obj:=FO (.type "function") "in_table_b1" "in_table_b1" (stN 9) 3 (S "cpy313.stringprep" 348) (.ref 119)
noncomputable def tr7 (P:Params):BT:=K (boot_o_0 P) (K (boot_o_1 P) (K (o3_7 P) (K (boot_o_7 P) y44 (K o23_2 y45 (K o55_2 (L o87_2) (L o119_7)))) (K o11_0 (K o19_1 y27 (K o51_2 (L o83_2) (L o12_0))) y46)) (K (boot_o_5 P) (y47 P) (K o13_0 (K o21_1 y32 (K o11_0 (L o85_2) (L o11_0))) y48))) (K (boot_o_2 P) (K (boot_o_4 P) (K (boot_o_8 P) y49 (K (o24_2 P) y50 (K o11_0 (L o88_4) (L o120_7)))) (K o12_7 (K o20_1 y36 (K o52_2 (L o84_2) (L o116_7))) y51)) (K (boot_o_6 P) (K (boot_o_10 P) (K o11_0 y38 (K o50_2 (L (o82_2 P)) (L o11_0))) y52) (K o14_0 (K o11_0 y41 (K o12_0 (L o86_2) (L o118_7))) (y53 P))))
noncomputable def o3_8 (P:Params):Obj:=DI #[E P "__name__" 165 (S "cpy313.stringprep" 348),E P "__doc__" 166 .none,E P "__package__" 167 .none,E P "__loader__" 168 (.builtin "__main__.__loader__#opaque"),E P "__spec__" 169 .none,E P "__annotations__" 170 (r 6),E P "__builtins__" 171 (r 4),E P "__file__" 173 (S "/claim/cut.py" 172),E P "__cached__" 174 .none,E P "_wall" 193 (r 21),E P "Whitespace" 295 (r 83),E P "COMPILER_FLAG_NAMES" 328 (r 88),E P "pretty_flags" 338 (r 95),E P "_parse_varint" 347 (r 102),E P "b1_set" 409 (r 110),E P "in_table_b1" 416 (r 120),E P "b3_exceptions" 2367 (r 121)] 17
noncomputable def y54:BT:=K o95_5 (L (b3o 38)) .nil
noncomputable def y55:BT:=K o79_2 (L (b3o 22)) .nil
noncomputable def y56:BT:=K o11_0 (K o31_2 (K o11_0 (L (b3o 6)) .nil) y54) (K o12_0 y55 (L o111_6))
noncomputable def y57:BT:=K o71_2 (L (b3o 14)) .nil
noncomputable def y58:BT:=K o87_2 (L (b3o 30)) .nil
noncomputable def y59:BT:=K o55_2 y58 (L o119_7)
noncomputable def y60 (P:Params):BT:=K (boot_o_7 P) y56 (K o23_2 (K o11_0 y57 (L o103_6)) y59)
noncomputable def y61:BT:=K o11_0 (L (b3o 10)) .nil
noncomputable def y62:BT:=K o83_2 (L (b3o 26)) .nil
noncomputable def y63:BT:=K o51_2 y62 (L o12_0)
noncomputable def y64:BT:=K o12_0 (L (b3o 18)) .nil
noncomputable def y65:BT:=K o91_5 (L (b3o 34)) .nil
noncomputable def y66:BT:=K o27_2 (K o43_2 y64 (L o11_0)) (K o59_2 y65 (L (b3o 2)))
noncomputable def y67:BT:=K o65_2 (L (b3o 8)) .nil
noncomputable def y68:BT:=K o81_2 (L (b3o 24)) .nil
noncomputable def y69:BT:=K o11_0 y68 (L o113_6)
noncomputable def y70:BT:=K o73_2 (L (b3o 16)) .nil
noncomputable def y71:BT:=K o11_0 (L (b3o 32)) .nil
noncomputable def y72:BT:=K o57_2 y71 (L (b3o 0))
noncomputable def y73:BT:=K o11_0 (K o41_2 y70 (L o105_6)) y72
noncomputable def y74:BT:=K o69_2 (L (b3o 12)) .nil
noncomputable def y75:BT:=K o85_2 (L (b3o 28)) .nil
noncomputable def y76:BT:=K o11_0 y75 (L o11_0)
noncomputable def y77:BT:=K o11_0 (L (b3o 20)) .nil
noncomputable def y78:BT:=K o93_5 (L (b3o 36)) .nil
noncomputable def y79:BT:=K o29_2 (K o45_2 y77 (L o109_6)) (K o12_0 y78 (L (b3o 4)))
noncomputable def y80:BT:=K o64_2 (L (b3o 7)) .nil
noncomputable def y81:BT:=K o80_2 (L (b3o 23)) .nil
noncomputable def y82:BT:=K o48_2 y81 (L o11_0)
noncomputable def y83:BT:=K o72_2 (L (b3o 15)) .nil
noncomputable def y84:BT:=K o88_4 (L (b3o 31)) .nil
noncomputable def y85:BT:=K o11_0 y84 (L o120_7)
noncomputable def y86 (P:Params):BT:=K (o24_2 P) (K o12_0 y83 (L o104_6)) y85
noncomputable def y87:BT:=K o12_0 (L (b3o 11)) .nil
noncomputable def y88:BT:=K o84_2 (L (b3o 27)) .nil
noncomputable def y89:BT:=K o52_2 y88 (L o116_7)
noncomputable def y90:BT:=K o76_2 (L (b3o 19)) .nil
noncomputable def y91:BT:=K o11_0 (L (b3o 35)) .nil
noncomputable def y92:BT:=K o28_2 (K o44_2 y90 (L o108_6)) (K o11_0 y91 (L (b3o 3)))
noncomputable def y93:BT:=K o66_2 (L (b3o 9)) .nil
noncomputable def y94 (P:Params):BT:=K (o82_2 P) (L (b3o 25)) .nil
noncomputable def y95 (P:Params):BT:=K o50_2 (y94 P) (L o11_0)
noncomputable def y96:BT:=K o11_0 (L (b3o 17)) .nil
noncomputable def y97:BT:=K o12_0 (L (b3o 33)) .nil
noncomputable def y98:BT:=K o26_2 (K o11_0 y96 (L o106_6)) (K o58_2 y97 (L (b3o 1)))
noncomputable def y99:BT:=K o11_0 (L (b3o 13)) .nil
noncomputable def y100:BT:=K o86_2 (L (b3o 29)) .nil
noncomputable def y101:BT:=K o12_0 y100 (L o118_7)
noncomputable def y102:BT:=K o78_2 (L (b3o 21)) .nil
noncomputable def y103:BT:=K o94_5 (L (b3o 37)) .nil
noncomputable def y104 (P:Params):BT:=K o11_0 (K o11_0 y102 (L (o110_6 P))) (K o62_2 y103 (L (b3o 5)))
noncomputable def tr8 (P:Params):BT:=K (boot_o_0 P) (K (boot_o_1 P) (K (o3_8 P) (y60 P) (K o11_0 (K o19_1 (K o11_0 y61 (L o11_0)) y63) y66)) (K (boot_o_5 P) (K (boot_o_9 P) (K o17_1 (K o12_0 y67 (L o12_0)) y69) y73) (K o13_0 (K o21_1 (K o37_2 y74 (L o101_5)) y76) y79))) (K (boot_o_2 P) (K (boot_o_4 P) (K (boot_o_8 P) (K o12_0 (K o11_0 y80 (L o11_0)) y82) (y86 P)) (K o12_7 (K o20_1 (K o36_2 y87 (L o100_5)) y89) y92)) (K (boot_o_6 P) (K (boot_o_10 P) (K o11_0 (K o34_2 y93 (L o98_5)) (y95 P)) y98) (K o14_0 (K o11_0 (K o38_2 y99 (L o102_5)) y101) (y104 P))))
noncomputable def o3_9 (P:Params):Obj:=DI #[E P "__name__" 165 (S "cpy313.token" 2376),E P "__doc__" 166 .none,E P "__package__" 167 .none,E P "__loader__" 168 (.builtin "__main__.__loader__#opaque"),E P "__spec__" 169 .none,E P "__annotations__" 170 (r 6),E P "__builtins__" 171 (r 4),E P "__file__" 173 (S "/claim/cut.py" 172),E P "__cached__" 174 .none,E P "_wall" 193 (r 21),E P "Whitespace" 295 (r 83),E P "COMPILER_FLAG_NAMES" 328 (r 88),E P "pretty_flags" 338 (r 95),E P "_parse_varint" 347 (r 102),E P "b1_set" 409 (r 110),E P "in_table_b1" 416 (r 120),E P "b3_exceptions" 2367 (r 121),E P "map_table_b3" 2375 (r 166),E P "ENDMARKER" 2379 (.int 0 2378),E P "LPAR" 2381 (.int 7 2380),E P "RPAR" 2383 (.int 8 2382),E P "LSQB" 2385 (.int 9 2384),E P "RSQB" 2387 (.int 10 2386),E P "COLON" 2389 (.int 11 2388),E P "COMMA" 2391 (.int 12 2390),E P "SEMI" 2393 (.int 13 2392),E P "PLUS" 2395 (.int 14 2394),E P "MINUS" 2397 (.int 15 2396)] 28
noncomputable def o12_9:Obj:=FI .none #[i 1,i 0,.ref 20,i 5,i 0,.ref 27,i 63,i 0,.ref 94,i 75,i 0,.ref 101,i 85,i 0,.ref 119,i 88,i 0,.ref 165]
noncomputable def o162_9:Obj:=⟨(.type "tuple"),none,(.seq #[(S "code" 2371),(S "r" 2372)] 0),#[]⟩
noncomputable def o164_9:Obj:=FO .none "map_table_b3" "map_table_b3" (stN 11) 0 .none .none
noncomputable def o165_9:Obj:=CO "map_table_b3" 2368 "map_table_b3" 2369 2370 88 1 0 0 3 160 true 181 161 .none (.ref 162) (.ref 163) (.ref 164) 2373 88 2374
noncomputable def o166_9:Obj:=FO (.type "function") "map_table_b3" "map_table_b3" (stN 11) 3 (S "cpy313.stringprep" 348) (.ref 165)
noncomputable def y105:BT:=K o11_0 (K o19_1 (K o11_0 y61 y4) y63) y66
noncomputable def y106:BT:=K o12_0 (L o12_0) .nil
noncomputable def y107:BT:=K o17_1 (K o12_0 y67 y106) y69
noncomputable def y108:BT:=K o101_5 (L o165_9) .nil
noncomputable def y109:BT:=K o13_0 (K o21_1 (K o37_2 y74 y108) y76) y79
noncomputable def y110 (P:Params):BT:=K (boot_o_5 P) (K (boot_o_9 P) y107 y73) y109
noncomputable def y111:BT:=K o12_0 (K o11_0 y80 y4) y82
noncomputable def y112:BT:=K o100_5 (L o164_9) .nil
noncomputable def y113:BT:=K o12_9 (K o20_1 (K o36_2 y87 y112) y89) y92
noncomputable def y114:BT:=K o98_5 (L o162_9) .nil
noncomputable def y115:BT:=K o102_5 (L o166_9) .nil
noncomputable def y116:BT:=K o38_2 y99 y115
noncomputable def y117 (P:Params):BT:=K (boot_o_6 P) (K (boot_o_10 P) (K o11_0 (K o34_2 y93 y114) (y95 P)) y98) (K o14_0 (K o11_0 y116 y101) (y104 P))
noncomputable def y118 (P:Params):BT:=K (boot_o_2 P) (K (boot_o_4 P) (K (boot_o_8 P) y111 (y86 P)) y113) (y117 P)
noncomputable def tr9 (P:Params):BT:=K (boot_o_0 P) (K (boot_o_1 P) (K (o3_9 P) (y60 P) y105) (y110 P)) (y118 P)
noncomputable def o3_10 (P:Params):Obj:=DI #[E P "__name__" 165 (S "cpy313.token" 2376),E P "__doc__" 166 .none,E P "__package__" 167 .none,E P "__loader__" 168 (.builtin "__main__.__loader__#opaque"),E P "__spec__" 169 .none,E P "__annotations__" 170 (r 6),E P "__builtins__" 171 (r 4),E P "__file__" 173 (S "/claim/cut.py" 172),E P "__cached__" 174 .none,E P "_wall" 193 (r 21),E P "Whitespace" 295 (r 83),E P "COMPILER_FLAG_NAMES" 328 (r 88),E P "pretty_flags" 338 (r 95),E P "_parse_varint" 347 (r 102),E P "b1_set" 409 (r 110),E P "in_table_b1" 416 (r 120),E P "b3_exceptions" 2367 (r 121),E P "map_table_b3" 2375 (r 166),E P "ENDMARKER" 2379 (.int 0 2378),E P "LPAR" 2381 (.int 7 2380),E P "RPAR" 2383 (.int 8 2382),E P "LSQB" 2385 (.int 9 2384),E P "RSQB" 2387 (.int 10 2386),E P "COLON" 2389 (.int 11 2388),E P "COMMA" 2391 (.int 12 2390),E P "SEMI" 2393 (.int 13 2392),E P "PLUS" 2395 (.int 14 2394),E P "MINUS" 2397 (.int 15 2396),E P "STAR" 2399 (.int 16 2398),E P "SLASH" 2401 (.int 17 2400),E P "VBAR" 2403 (.int 18 2402),E P "AMPER" 2405 (.int 19 2404),E P "LESS" 2407 (.int 20 2406),E P "GREATER" 2409 (.int 21 2408),E P "EQUAL" 2411 (.int 22 2410),E P "DOT" 2413 (.int 23 2412),E P "PERCENT" 2415 (.int 24 2414),E P "LBRACE" 2417 (.int 25 2416),E P "RBRACE" 2419 (.int 26 2418),E P "EQEQUAL" 2421 (.int 27 2420),E P "NOTEQUAL" 2423 (.int 28 2422),E P "LESSEQUAL" 2425 (.int 29 2424)] 42
noncomputable def tr10 (P:Params):BT:=K (boot_o_0 P) (K (boot_o_1 P) (K (o3_10 P) (y60 P) y105) (y110 P)) (y118 P)
noncomputable def o3_11 (P:Params):Obj:=DI #[E P "__name__" 165 (S "cpy313.token" 2376),E P "__doc__" 166 .none,E P "__package__" 167 .none,E P "__loader__" 168 (.builtin "__main__.__loader__#opaque"),E P "__spec__" 169 .none,E P "__annotations__" 170 (r 6),E P "__builtins__" 171 (r 4),E P "__file__" 173 (S "/claim/cut.py" 172),E P "__cached__" 174 .none,E P "_wall" 193 (r 21),E P "Whitespace" 295 (r 83),E P "COMPILER_FLAG_NAMES" 328 (r 88),E P "pretty_flags" 338 (r 95),E P "_parse_varint" 347 (r 102),E P "b1_set" 409 (r 110),E P "in_table_b1" 416 (r 120),E P "b3_exceptions" 2367 (r 121),E P "map_table_b3" 2375 (r 166),E P "ENDMARKER" 2379 (.int 0 2378),E P "LPAR" 2381 (.int 7 2380),E P "RPAR" 2383 (.int 8 2382),E P "LSQB" 2385 (.int 9 2384),E P "RSQB" 2387 (.int 10 2386),E P "COLON" 2389 (.int 11 2388),E P "COMMA" 2391 (.int 12 2390),E P "SEMI" 2393 (.int 13 2392),E P "PLUS" 2395 (.int 14 2394),E P "MINUS" 2397 (.int 15 2396),E P "STAR" 2399 (.int 16 2398),E P "SLASH" 2401 (.int 17 2400),E P "VBAR" 2403 (.int 18 2402),E P "AMPER" 2405 (.int 19 2404),E P "LESS" 2407 (.int 20 2406),E P "GREATER" 2409 (.int 21 2408),E P "EQUAL" 2411 (.int 22 2410),E P "DOT" 2413 (.int 23 2412),E P "PERCENT" 2415 (.int 24 2414),E P "LBRACE" 2417 (.int 25 2416),E P "RBRACE" 2419 (.int 26 2418),E P "EQEQUAL" 2421 (.int 27 2420),E P "NOTEQUAL" 2423 (.int 28 2422),E P "LESSEQUAL" 2425 (.int 29 2424),E P "GREATEREQUAL" 2427 (.int 30 2426),E P "TILDE" 2429 (.int 31 2428),E P "CIRCUMFLEX" 2431 (.int 32 2430),E P "LEFTSHIFT" 2433 (.int 33 2432),E P "RIGHTSHIFT" 2435 (.int 34 2434),E P "DOUBLESTAR" 2437 (.int 35 2436),E P "PLUSEQUAL" 2439 (.int 36 2438),E P "MINEQUAL" 2441 (.int 37 2440),E P "STAREQUAL" 2443 (.int 38 2442),E P "SLASHEQUAL" 2445 (.int 39 2444),E P "PERCENTEQUAL" 2447 (.int 40 2446),E P "AMPEREQUAL" 2449 (.int 41 2448),E P "VBAREQUAL" 2451 (.int 42 2450),E P "CIRCUMFLEXEQUAL" 2453 (.int 43 2452)] 56
noncomputable def tr11 (P:Params):BT:=K (boot_o_0 P) (K (boot_o_1 P) (K (o3_11 P) (y60 P) y105) (y110 P)) (y118 P)
noncomputable def o3_12 (P:Params):Obj:=DI #[E P "__name__" 165 (S "cpy313.token" 2376),E P "__doc__" 166 .none,E P "__package__" 167 .none,E P "__loader__" 168 (.builtin "__main__.__loader__#opaque"),E P "__spec__" 169 .none,E P "__annotations__" 170 (r 6),E P "__builtins__" 171 (r 4),E P "__file__" 173 (S "/claim/cut.py" 172),E P "__cached__" 174 .none,E P "_wall" 193 (r 21),E P "Whitespace" 295 (r 83),E P "COMPILER_FLAG_NAMES" 328 (r 88),E P "pretty_flags" 338 (r 95),E P "_parse_varint" 347 (r 102),E P "b1_set" 409 (r 110),E P "in_table_b1" 416 (r 120),E P "b3_exceptions" 2367 (r 121),E P "map_table_b3" 2375 (r 166),E P "ENDMARKER" 2379 (.int 0 2378),E P "LPAR" 2381 (.int 7 2380),E P "RPAR" 2383 (.int 8 2382),E P "LSQB" 2385 (.int 9 2384),E P "RSQB" 2387 (.int 10 2386),E P "COLON" 2389 (.int 11 2388),E P "COMMA" 2391 (.int 12 2390),E P "SEMI" 2393 (.int 13 2392),E P "PLUS" 2395 (.int 14 2394),E P "MINUS" 2397 (.int 15 2396),E P "STAR" 2399 (.int 16 2398),E P "SLASH" 2401 (.int 17 2400),E P "VBAR" 2403 (.int 18 2402),E P "AMPER" 2405 (.int 19 2404),E P "LESS" 2407 (.int 20 2406),E P "GREATER" 2409 (.int 21 2408),E P "EQUAL" 2411 (.int 22 2410),E P "DOT" 2413 (.int 23 2412),E P "PERCENT" 2415 (.int 24 2414),E P "LBRACE" 2417 (.int 25 2416),E P "RBRACE" 2419 (.int 26 2418),E P "EQEQUAL" 2421 (.int 27 2420),E P "NOTEQUAL" 2423 (.int 28 2422),E P "LESSEQUAL" 2425 (.int 29 2424),E P "GREATEREQUAL" 2427 (.int 30 2426),E P "TILDE" 2429 (.int 31 2428),E P "CIRCUMFLEX" 2431 (.int 32 2430),E P "LEFTSHIFT" 2433 (.int 33 2432),E P "RIGHTSHIFT" 2435 (.int 34 2434),E P "DOUBLESTAR" 2437 (.int 35 2436),E P "PLUSEQUAL" 2439 (.int 36 2438),E P "MINEQUAL" 2441 (.int 37 2440),E P "STAREQUAL" 2443 (.int 38 2442),E P "SLASHEQUAL" 2445 (.int 39 2444),E P "PERCENTEQUAL" 2447 (.int 40 2446),E P "AMPEREQUAL" 2449 (.int 41 2448),E P "VBAREQUAL" 2451 (.int 42 2450),E P "CIRCUMFLEXEQUAL" 2453 (.int 43 2452),E P "LEFTSHIFTEQUAL" 2455 (.int 44 2454),E P "RIGHTSHIFTEQUAL" 2457 (.int 45 2456),E P "DOUBLESTAREQUAL" 2459 (.int 46 2458),E P "DOUBLESLASH" 2461 (.int 47 2460),E P "DOUBLESLASHEQUAL" 2463 (.int 48 2462),E P "AT" 2465 (.int 49 2464),E P "ATEQUAL" 2467 (.int 50 2466),E P "RARROW" 2469 (.int 51 2468),E P "ELLIPSIS" 2471 (.int 52 2470),E P "COLONEQUAL" 2473 (.int 53 2472),E P "EXCLAMATION" 2475 (.int 54 2474),E P "OP" 2477 (.int 55 2476),E P "NT_OFFSET" 2479 (.int 256 2478)] 69
noncomputable def tr12 (P:Params):BT:=K (boot_o_0 P) (K (boot_o_1 P) (K (o3_12 P) (y60 P) y105) (y110 P)) (y118 P)
noncomputable def o3_13 (P:Params):Obj:=DI #[E P "__name__" 165 (S "cpy313.token" 2376),E P "__doc__" 166 .none,E P "__package__" 167 .none,E P "__loader__" 168 (.builtin "__main__.__loader__#opaque"),E P "__spec__" 169 .none,E P "__annotations__" 170 (r 6),E P "__builtins__" 171 (r 4),E P "__file__" 173 (S "/claim/cut.py" 172),E P "__cached__" 174 .none,E P "_wall" 193 (r 21),E P "Whitespace" 295 (r 83),E P "COMPILER_FLAG_NAMES" 328 (r 88),E P "pretty_flags" 338 (r 95),E P "_parse_varint" 347 (r 102),E P "b1_set" 409 (r 110),E P "in_table_b1" 416 (r 120),E P "b3_exceptions" 2367 (r 121),E P "map_table_b3" 2375 (r 166),E P "ENDMARKER" 2379 (.int 0 2378),E P "LPAR" 2381 (.int 7 2380),E P "RPAR" 2383 (.int 8 2382),E P "LSQB" 2385 (.int 9 2384),E P "RSQB" 2387 (.int 10 2386),E P "COLON" 2389 (.int 11 2388),E P "COMMA" 2391 (.int 12 2390),E P "SEMI" 2393 (.int 13 2392),E P "PLUS" 2395 (.int 14 2394),E P "MINUS" 2397 (.int 15 2396),E P "STAR" 2399 (.int 16 2398),E P "SLASH" 2401 (.int 17 2400),E P "VBAR" 2403 (.int 18 2402),E P "AMPER" 2405 (.int 19 2404),E P "LESS" 2407 (.int 20 2406),E P "GREATER" 2409 (.int 21 2408),E P "EQUAL" 2411 (.int 22 2410),E P "DOT" 2413 (.int 23 2412),E P "PERCENT" 2415 (.int 24 2414),E P "LBRACE" 2417 (.int 25 2416),E P "RBRACE" 2419 (.int 26 2418),E P "EQEQUAL" 2421 (.int 27 2420),E P "NOTEQUAL" 2423 (.int 28 2422),E P "LESSEQUAL" 2425 (.int 29 2424),E P "GREATEREQUAL" 2427 (.int 30 2426),E P "TILDE" 2429 (.int 31 2428),E P "CIRCUMFLEX" 2431 (.int 32 2430),E P "LEFTSHIFT" 2433 (.int 33 2432),E P "RIGHTSHIFT" 2435 (.int 34 2434),E P "DOUBLESTAR" 2437 (.int 35 2436),E P "PLUSEQUAL" 2439 (.int 36 2438),E P "MINEQUAL" 2441 (.int 37 2440),E P "STAREQUAL" 2443 (.int 38 2442),E P "SLASHEQUAL" 2445 (.int 39 2444),E P "PERCENTEQUAL" 2447 (.int 40 2446),E P "AMPEREQUAL" 2449 (.int 41 2448),E P "VBAREQUAL" 2451 (.int 42 2450),E P "CIRCUMFLEXEQUAL" 2453 (.int 43 2452),E P "LEFTSHIFTEQUAL" 2455 (.int 44 2454),E P "RIGHTSHIFTEQUAL" 2457 (.int 45 2456),E P "DOUBLESTAREQUAL" 2459 (.int 46 2458),E P "DOUBLESLASH" 2461 (.int 47 2460),E P "DOUBLESLASHEQUAL" 2463 (.int 48 2462),E P "AT" 2465 (.int 49 2464),E P "ATEQUAL" 2467 (.int 50 2466),E P "RARROW" 2469 (.int 51 2468),E P "ELLIPSIS" 2471 (.int 52 2470),E P "COLONEQUAL" 2473 (.int 53 2472),E P "EXCLAMATION" 2475 (.int 54 2474),E P "OP" 2477 (.int 55 2476),E P "NT_OFFSET" 2479 (.int 256 2478),E P "EXACT_TOKEN_TYPES" 2576 (r 167)] 70
noncomputable def o167_13 (P:Params):Obj:=DI #[E P "!" 2480 (.int 54 2474),E P "!=" 2482 (.int 28 2422),E P "%" 2484 (.int 24 2414),E P "%=" 2486 (.int 40 2446),E P "&" 2488 (.int 19 2404),E P "&=" 2490 (.int 41 2448),(E P "(" 2492 (.int 7 2380)),(E P ")" 2494 (.int 8 2382)),E P "*" 2496 (.int 16 2398),E P "**" 2498 (.int 35 2436),E P "**=" 2500 (.int 46 2458),E P "*=" 2502 (.int 38 2442),E P "+" 2504 (.int 14 2394),E P "+=" 2506 (.int 36 2438),E P "," 2508 (.int 12 2390),E P "-" 2510 (.int 15 2396),E P "-=" 2512 (.int 37 2440),E P "->" 2514 (.int 51 2468),E P "." 2516 (.int 23 2412),E P "..." 2518 (.int 52 2470),E P "/" 2520 (.int 17 2400),E P "//" 2522 (.int 47 2460),E P "//=" 2524 (.int 48 2462),E P "/=" 2526 (.int 39 2444),E P ":" 2528 (.int 11 2388),E P ":=" 2530 (.int 53 2472),E P ";" 2532 (.int 13 2392),E P "<" 2534 (.int 20 2406),E P "<<" 2536 (.int 33 2432),E P "<<=" 2538 (.int 44 2454),E P "<=" 2540 (.int 29 2424),E P "=" 2542 (.int 22 2410),E P "==" 2544 (.int 27 2420),E P ">" 2546 (.int 21 2408),E P ">=" 2548 (.int 30 2426),E P ">>" 2549 (.int 34 2434),E P ">>=" 2550 (.int 45 2456),E P "@" 2551 (.int 49 2464),E P "@=" 2552 (.int 50 2466),E P "[" 2553 (.int 9 2384),E P "]" 2554 (.int 10 2386),E P "^" 2555 (.int 32 2430),E P "^=" 2556 (.int 43 2452),E P "{" 2557 (.int 25 2416),E P "|" 2558 (.int 18 2402),E P "|=" 2559 (.int 42 2450),E P "}" 2560 (.int 26 2418),E P "~" 2561 (.int 31 2428)] 48
noncomputable def o168_13 (P:Params):Obj:=DI #[E P "->" 2514 (.int 51 2468),E P "." 2516 (.int 23 2412),E P "..." 2518 (.int 52 2470),E P "/" 2520 (.int 17 2400),E P "//" 2522 (.int 47 2460),E P "//=" 2524 (.int 48 2462),E P "/=" 2526 (.int 39 2444),E P ":" 2528 (.int 11 2388),E P ":=" 2530 (.int 53 2472),E P ";" 2532 (.int 13 2392),E P "<" 2534 (.int 20 2406),E P "<<" 2536 (.int 33 2432),E P "<<=" 2538 (.int 44 2454),E P "<=" 2540 (.int 29 2424),E P "=" 2542 (.int 22 2410),E P "==" 2544 (.int 27 2420),E P ">" 2546 (.int 21 2408)] 17
noncomputable def o169_13 (P:Params):Obj:=DI #[E P ">=" 2548 (.int 30 2426),E P ">>" 2549 (.int 34 2434),E P ">>=" 2550 (.int 45 2456),E P "@" 2551 (.int 49 2464),E P "@=" 2552 (.int 50 2466),E P "[" 2553 (.int 9 2384),E P "]" 2554 (.int 10 2386),E P "^" 2555 (.int 32 2430),E P "^=" 2556 (.int 43 2452),E P "{" 2557 (.int 25 2416),E P "|" 2558 (.int 18 2402),E P "|=" 2559 (.int 42 2450),E P "}" 2560 (.int 26 2418),E P "~" 2561 (.int 31 2428)] 14
noncomputable def y119 (P:Params):BT:=K o103_6 (L (o167_13 P)) .nil
noncomputable def y120 (P:Params):BT:=K o11_0 y57 (y119 P)
noncomputable def y121 (P:Params):BT:=K o105_6 (L (o169_13 P)) .nil
noncomputable def y122 (P:Params):BT:=K o41_2 y70 (y121 P)
noncomputable def y123 (P:Params):BT:=K o104_6 (L (o168_13 P)) .nil
noncomputable def y124 (P:Params):BT:=K o12_0 y83 (y123 P)
noncomputable def tr13 (P:Params):BT:=K (boot_o_0 P) (K (boot_o_1 P) (K (o3_13 P) (K (boot_o_7 P) y56 (K o23_2 (y120 P) y59)) y105) (K (boot_o_5 P) (K (boot_o_9 P) y107 (K o11_0 (y122 P) y72)) y109)) (K (boot_o_2 P) (K (boot_o_4 P) (K (boot_o_8 P) y111 (K (o24_2 P) (y124 P) y85)) y113) (y117 P))
noncomputable def o3_14 (P:Params):Obj:=DI #[E P "__name__" 165 (S "law_sr0089_02" 2598),E P "__doc__" 166 .none,E P "__package__" 167 .none,E P "__loader__" 168 (.builtin "__main__.__loader__#opaque"),E P "__spec__" 169 .none,E P "__annotations__" 170 (r 6),E P "__builtins__" 171 (r 4),E P "__file__" 173 (S "/claim/cut.py" 172),E P "__cached__" 174 .none,E P "_wall" 193 (r 21),E P "Whitespace" 295 (r 83),E P "COMPILER_FLAG_NAMES" 328 (r 88),E P "pretty_flags" 338 (r 95),E P "_parse_varint" 347 (r 102),E P "b1_set" 409 (r 110),E P "in_table_b1" 416 (r 120),E P "b3_exceptions" 2367 (r 121),E P "map_table_b3" 2375 (r 166),E P "ENDMARKER" 2379 (.int 0 2378),E P "LPAR" 2381 (.int 7 2380),E P "RPAR" 2383 (.int 8 2382),E P "LSQB" 2385 (.int 9 2384),E P "RSQB" 2387 (.int 10 2386),E P "COLON" 2389 (.int 11 2388),E P "COMMA" 2391 (.int 12 2390),E P "SEMI" 2393 (.int 13 2392),E P "PLUS" 2395 (.int 14 2394),E P "MINUS" 2397 (.int 15 2396),E P "STAR" 2399 (.int 16 2398),E P "SLASH" 2401 (.int 17 2400),E P "VBAR" 2403 (.int 18 2402),E P "AMPER" 2405 (.int 19 2404),E P "LESS" 2407 (.int 20 2406),E P "GREATER" 2409 (.int 21 2408),E P "EQUAL" 2411 (.int 22 2410),E P "DOT" 2413 (.int 23 2412),E P "PERCENT" 2415 (.int 24 2414),E P "LBRACE" 2417 (.int 25 2416),E P "RBRACE" 2419 (.int 26 2418),E P "EQEQUAL" 2421 (.int 27 2420),E P "NOTEQUAL" 2423 (.int 28 2422),E P "LESSEQUAL" 2425 (.int 29 2424),E P "GREATEREQUAL" 2427 (.int 30 2426),E P "TILDE" 2429 (.int 31 2428),E P "CIRCUMFLEX" 2431 (.int 32 2430),E P "LEFTSHIFT" 2433 (.int 33 2432),E P "RIGHTSHIFT" 2435 (.int 34 2434),E P "DOUBLESTAR" 2437 (.int 35 2436),E P "PLUSEQUAL" 2439 (.int 36 2438),E P "MINEQUAL" 2441 (.int 37 2440),E P "STAREQUAL" 2443 (.int 38 2442),E P "SLASHEQUAL" 2445 (.int 39 2444),E P "PERCENTEQUAL" 2447 (.int 40 2446),E P "AMPEREQUAL" 2449 (.int 41 2448),E P "VBAREQUAL" 2451 (.int 42 2450),E P "CIRCUMFLEXEQUAL" 2453 (.int 43 2452),E P "LEFTSHIFTEQUAL" 2455 (.int 44 2454),E P "RIGHTSHIFTEQUAL" 2457 (.int 45 2456),E P "DOUBLESTAREQUAL" 2459 (.int 46 2458),E P "DOUBLESLASH" 2461 (.int 47 2460),E P "DOUBLESLASHEQUAL" 2463 (.int 48 2462),E P "AT" 2465 (.int 49 2464),E P "ATEQUAL" 2467 (.int 50 2466),E P "RARROW" 2469 (.int 51 2468),E P "ELLIPSIS" 2471 (.int 52 2470),E P "COLONEQUAL" 2473 (.int 53 2472),E P "EXCLAMATION" 2475 (.int 54 2474),E P "OP" 2477 (.int 55 2476),E P "NT_OFFSET" 2479 (.int 256 2478),E P "EXACT_TOKEN_TYPES" 2576 (r 167),E P "ISTERMINAL" 2583 (r 176),E P "ISNONTERMINAL" 2590 (r 183),E P "ISEOF" 2597 (r 190),E P "_law_numbers" 2606 (r 197)] 74
noncomputable def o12_14:Obj:=FI .none #[i 1,i 0,.ref 20,i 5,i 0,.ref 27,i 63,i 0,.ref 94,i 75,i 0,.ref 101,i 85,i 0,.ref 119,i 88,i 0,.ref 165,i 146,i 0,.ref 175,i 148,i 0,.ref 182,i 150,i 0,.ref 189,i 153,i 0,.ref 196]
noncomputable def o172_14:Obj:=⟨(.type "tuple"),none,(.seq #[(S "x" 2580)] 0),#[]⟩
noncomputable def o174_14:Obj:=FO .none "ISTERMINAL" "ISTERMINAL" (stN 65) 0 .none .none
noncomputable def o175_14:Obj:=CO "ISTERMINAL" 2577 "ISTERMINAL" 2578 2579 146 1 0 0 3 170 true 181 171 .none (.ref 172) (.ref 173) (.ref 174) 2581 146 2582
noncomputable def o176_14:Obj:=FO (.type "function") "ISTERMINAL" "ISTERMINAL" (stN 65) 3 (S "cpy313.token" 2376) (.ref 175)
noncomputable def o179_14:Obj:=⟨(.type "tuple"),none,(.seq #[(S "x" 2587)] 0),#[]⟩
noncomputable def o181_14:Obj:=FO .none "ISNONTERMINAL" "ISNONTERMINAL" (stN 66) 0 .none .none
noncomputable def o182_14:Obj:=CO "ISNONTERMINAL" 2584 "ISNONTERMINAL" 2585 2586 148 1 0 0 3 177 true 181 178 .none (.ref 179) (.ref 180) (.ref 181) 2588 148 2589
noncomputable def o183_14:Obj:=FO (.type "function") "ISNONTERMINAL" "ISNONTERMINAL" (stN 66) 3 (S "cpy313.token" 2376) (.ref 182)
noncomputable def o186_14:Obj:=⟨(.type "tuple"),none,(.seq #[(S "x" 2594)] 0),#[]⟩
noncomputable def o188_14:Obj:=FO .none "ISEOF" "ISEOF" (stN 67) 0 .none .none
noncomputable def o189_14:Obj:=CO "ISEOF" 2591 "ISEOF" 2592 2593 150 1 0 0 3 184 true 181 185 .none (.ref 186) (.ref 187) (.ref 188) 2595 150 2596
noncomputable def o190_14:Obj:=FO (.type "function") "ISEOF" "ISEOF" (stN 67) 3 (S "cpy313.token" 2376) (.ref 189)
noncomputable def o193_14:Obj:=⟨(.type "tuple"),none,(.seq #[(S "script" 2603)] 0),#[]⟩
noncomputable def o195_14:Obj:=FO .none "_law_numbers" "_law_numbers" (stN 69) 0 .none .none
noncomputable def o196_14:Obj:=CO "_law_numbers" 2600 "_law_numbers" 2601 2602 153 1 0 0 3 191 true 181 192 .none (.ref 193) (.ref 194) (.ref 195) 2604 153 2605
noncomputable def o197_14:Obj:=FO (.type "function") "_law_numbers" "_law_numbers" (stN 69) 3 (S "law_sr0089_02" 2598) (.ref 196)
noncomputable def y125:BT:=K o11_0 (L (b3o 6)) (L o11_0)
noncomputable def y126:BT:=K o31_2 y125 y54
noncomputable def y127:BT:=K o111_6 (L o175_14) .nil
noncomputable def y128:BT:=K o119_7 (L o183_14) .nil
noncomputable def y129:BT:=K o11_0 (L (b3o 10)) (L o195_14)
noncomputable def y130:BT:=K o11_0 y129 y4
noncomputable def y131:BT:=K o12_0 (L o179_14) .nil
noncomputable def y132:BT:=K o11_0 (L o12_0) .nil
noncomputable def y133:BT:=K (b3o 2) (L o11_0) .nil
noncomputable def y134:BT:=K o65_2 (L (b3o 8)) (L o193_14)
noncomputable def y135:BT:=K o12_0 y134 y106
noncomputable def y136:BT:=K o113_6 (L o11_0) .nil
noncomputable def y137:BT:=K (b3o 0) (L o12_0) .nil
noncomputable def y138:BT:=K o69_2 (L (b3o 12)) (L o197_14)
noncomputable def y139:BT:=K o37_2 y138 y108
noncomputable def y140:BT:=K o11_0 (L o181_14) .nil
noncomputable def y141:BT:=K o109_6 (L o11_0) .nil
noncomputable def y142:BT:=K (b3o 4) (L o189_14) .nil
noncomputable def y143:BT:=K o12_0 y78 y142
noncomputable def y144:BT:=K o64_2 (L (b3o 7)) (L o12_0)
noncomputable def y145:BT:=K o11_0 y144 y4
noncomputable def y146:BT:=K o11_0 (L o176_14) .nil
noncomputable def y147:BT:=K o120_7 (L o11_0) .nil
noncomputable def y148:BT:=K o12_0 (L (b3o 11)) (L o196_14)
noncomputable def y149:BT:=K o36_2 y148 y112
noncomputable def y150:BT:=K o116_7 (L o11_0) .nil
noncomputable def y151:BT:=K o108_6 (L o172_14) .nil
noncomputable def y152:BT:=K (b3o 3) (L o188_14) .nil
noncomputable def y153:BT:=K o11_0 y91 y152
noncomputable def y154:BT:=K o66_2 (L (b3o 9)) (L o11_0)
noncomputable def y155:BT:=K o34_2 y154 y114
noncomputable def y156:BT:=K o106_6 (L o11_0) .nil
noncomputable def y157:BT:=K (b3o 1) (L o186_14) .nil
noncomputable def y158:BT:=K o118_7 (L o182_14) .nil
noncomputable def y159 (P:Params):BT:=K (o110_6 P) (L o174_14) .nil
noncomputable def y160:BT:=K (b3o 5) (L o190_14) .nil
noncomputable def y161:BT:=K o62_2 y103 y160
noncomputable def tr14 (P:Params):BT:=K (boot_o_0 P) (K (boot_o_1 P) (K (o3_14 P) (K (boot_o_7 P) (K o11_0 y126 (K o12_0 y55 y127)) (K o23_2 (y120 P) (K o55_2 y58 y128))) (K o11_0 (K o19_1 y130 (K o51_2 y62 y131)) (K o27_2 (K o43_2 y64 y132) (K o59_2 y65 y133)))) (K (boot_o_5 P) (K (boot_o_9 P) (K o17_1 y135 (K o11_0 y68 y136)) (K o11_0 (y122 P) (K o57_2 y71 y137))) (K o13_0 (K o21_1 y139 (K o11_0 y75 y140)) (K o29_2 (K o45_2 y77 y141) y143)))) (K (boot_o_2 P) (K (boot_o_4 P) (K (boot_o_8 P) (K o12_0 y145 (K o48_2 y81 y146)) (K (o24_2 P) (y124 P) (K o11_0 y84 y147))) (K o12_14 (K o20_1 y149 (K o52_2 y88 y150)) (K o28_2 (K o44_2 y90 y151) y153))) (K (boot_o_6 P) (K (boot_o_10 P) (K o11_0 y155 (K o50_2 (y94 P) y132)) (K o26_2 (K o11_0 y96 y156) (K o58_2 y97 y157))) (K o14_0 (K o11_0 y116 (K o12_0 y100 y158)) (K o11_0 (K o11_0 y102 (y159 P)) y161))))
noncomputable def o3_15 (P:Params):Obj:=DI #[E P "__name__" 165 (S "law_sr0089_02" 2598),E P "__doc__" 166 .none,E P "__package__" 167 .none,E P "__loader__" 168 (.builtin "__main__.__loader__#opaque"),E P "__spec__" 169 .none,E P "__annotations__" 170 (r 6),E P "__builtins__" 171 (r 4),E P "__file__" 173 (S "/claim/cut.py" 172),E P "__cached__" 174 .none,E P "_wall" 193 (r 21),E P "Whitespace" 295 (r 83),E P "COMPILER_FLAG_NAMES" 328 (r 88),E P "pretty_flags" 338 (r 95),E P "_parse_varint" 347 (r 102),E P "b1_set" 409 (r 110),E P "in_table_b1" 416 (r 120),E P "b3_exceptions" 2367 (r 121),E P "map_table_b3" 2375 (r 166),E P "ENDMARKER" 2379 (.int 0 2378),E P "LPAR" 2381 (.int 7 2380),E P "RPAR" 2383 (.int 8 2382),E P "LSQB" 2385 (.int 9 2384),E P "RSQB" 2387 (.int 10 2386),E P "COLON" 2389 (.int 11 2388),E P "COMMA" 2391 (.int 12 2390),E P "SEMI" 2393 (.int 13 2392),E P "PLUS" 2395 (.int 14 2394),E P "MINUS" 2397 (.int 15 2396),E P "STAR" 2399 (.int 16 2398),E P "SLASH" 2401 (.int 17 2400),E P "VBAR" 2403 (.int 18 2402),E P "AMPER" 2405 (.int 19 2404),E P "LESS" 2407 (.int 20 2406),E P "GREATER" 2409 (.int 21 2408),E P "EQUAL" 2411 (.int 22 2410),E P "DOT" 2413 (.int 23 2412),E P "PERCENT" 2415 (.int 24 2414),E P "LBRACE" 2417 (.int 25 2416),E P "RBRACE" 2419 (.int 26 2418),E P "EQEQUAL" 2421 (.int 27 2420),E P "NOTEQUAL" 2423 (.int 28 2422),E P "LESSEQUAL" 2425 (.int 29 2424),E P "GREATEREQUAL" 2427 (.int 30 2426),E P "TILDE" 2429 (.int 31 2428),E P "CIRCUMFLEX" 2431 (.int 32 2430),E P "LEFTSHIFT" 2433 (.int 33 2432),E P "RIGHTSHIFT" 2435 (.int 34 2434),E P "DOUBLESTAR" 2437 (.int 35 2436),E P "PLUSEQUAL" 2439 (.int 36 2438),E P "MINEQUAL" 2441 (.int 37 2440),E P "STAREQUAL" 2443 (.int 38 2442),E P "SLASHEQUAL" 2445 (.int 39 2444),E P "PERCENTEQUAL" 2447 (.int 40 2446),E P "AMPEREQUAL" 2449 (.int 41 2448),E P "VBAREQUAL" 2451 (.int 42 2450),E P "CIRCUMFLEXEQUAL" 2453 (.int 43 2452),E P "LEFTSHIFTEQUAL" 2455 (.int 44 2454),E P "RIGHTSHIFTEQUAL" 2457 (.int 45 2456),E P "DOUBLESTAREQUAL" 2459 (.int 46 2458),E P "DOUBLESLASH" 2461 (.int 47 2460),E P "DOUBLESLASHEQUAL" 2463 (.int 48 2462),E P "AT" 2465 (.int 49 2464),E P "ATEQUAL" 2467 (.int 50 2466),E P "RARROW" 2469 (.int 51 2468),E P "ELLIPSIS" 2471 (.int 52 2470),E P "COLONEQUAL" 2473 (.int 53 2472),E P "EXCLAMATION" 2475 (.int 54 2474),E P "OP" 2477 (.int 55 2476),E P "NT_OFFSET" 2479 (.int 256 2478),E P "EXACT_TOKEN_TYPES" 2576 (r 167),E P "ISTERMINAL" 2583 (r 176),E P "ISNONTERMINAL" 2590 (r 183),E P "ISEOF" 2597 (r 190),E P "_law_numbers" 2606 (r 197),E P "_law_lead" 2614 (r 204),E P "_law_columns" 2620 (r 209),E P "_law_farther" 2626 (r 214),E P "_law_ups" 2632 (r 219)] 78
noncomputable def o12_15:Obj:=FI .none #[i 1,i 0,.ref 20,i 5,i 0,.ref 27,i 63,i 0,.ref 94,i 75,i 0,.ref 101,i 85,i 0,.ref 119,i 88,i 0,.ref 165,i 146,i 0,.ref 175,i 148,i 0,.ref 182,i 150,i 0,.ref 189,i 153,i 0,.ref 196,i 155,i 0,.ref 203,i 158,i 0,.ref 208,i 163,i 0,.ref 213,i 166,i 0,.ref 218]
noncomputable def o200_15:Obj:=⟨(.type "tuple"),none,(.seq #[(S "x" 2610),(S "lead" 2611)] 0),#[]⟩
noncomputable def o202_15:Obj:=FO .none "_law_lead" "_law_lead" (stN 70) 0 .none .none
noncomputable def o203_15:Obj:=CO "_law_lead" 2607 "_law_lead" 2608 2609 155 1 0 0 3 198 true 181 199 .none (.ref 200) (.ref 201) (.ref 202) 2612 155 2613
noncomputable def o204_15:Obj:=FO (.type "function") "_law_lead" "_law_lead" (stN 70) 3 (S "law_sr0089_02" 2598) (.ref 203)
noncomputable def o207_15:Obj:=FO .none "_law_columns" "_law_columns" (stN 71) 0 .none .none
noncomputable def o208_15:Obj:=CO "_law_columns" 2615 "_law_columns" 2616 2617 158 1 0 0 3 205 true 181 206 .none .none .none (.ref 207) 2618 158 2619
noncomputable def o209_15:Obj:=FO (.type "function") "_law_columns" "_law_columns" (stN 71) 3 (S "law_sr0089_02" 2598) (.ref 208)
noncomputable def o212_15:Obj:=FO .none "_law_farther" "_law_farther" (stN 72) 0 .none .none
noncomputable def o213_15:Obj:=CO "_law_farther" 2621 "_law_farther" 2622 2623 163 1 0 0 3 210 true 181 211 .none .none .none (.ref 212) 2624 163 2625
noncomputable def o214_15:Obj:=FO (.type "function") "_law_farther" "_law_farther" (stN 72) 3 (S "law_sr0089_02" 2598) (.ref 213)
noncomputable def o217_15:Obj:=FO .none "_law_ups" "_law_ups" (stN 73) 0 .none .none
noncomputable def o218_15:Obj:=CO "_law_ups" 2627 "_law_ups" 2628 2629 166 1 0 0 3 215 true 181 216 .none .none .none (.ref 217) 2630 166 2631
noncomputable def o219_15:Obj:=FO (.type "function") "_law_ups" "_law_ups" (stN 73) 3 (S "law_sr0089_02" 2598) (.ref 218)
noncomputable def y162:BT:=K o79_2 (L (b3o 22)) (L o207_15)
noncomputable def y163:BT:=K o71_2 (L (b3o 14)) (L o12_0)
noncomputable def y164:BT:=K o87_2 (L (b3o 30)) (L o11_0)
noncomputable def y165:BT:=K o55_2 y164 y128
noncomputable def y166:BT:=K o83_2 (L (b3o 26)) (L o12_0)
noncomputable def y167:BT:=K o12_0 (L (b3o 18)) (L o203_15)
noncomputable def y168:BT:=K o91_5 (L (b3o 34)) (L o219_15)
noncomputable def y169:BT:=K o59_2 y168 y133
noncomputable def y170:BT:=K o81_2 (L (b3o 24)) (L o209_15)
noncomputable def y171:BT:=K o73_2 (L (b3o 16)) (L o11_0)
noncomputable def y172:BT:=K o11_0 (L (b3o 32)) (L o217_15)
noncomputable def y173:BT:=K o57_2 y172 y137
noncomputable def y174:BT:=K o85_2 (L (b3o 28)) (L o213_15)
noncomputable def y175:BT:=K o11_0 y174 y140
noncomputable def y176:BT:=K o11_0 (L (b3o 20)) (L o11_0)
noncomputable def y177:BT:=K o80_2 (L (b3o 23)) (L o208_15)
noncomputable def y178:BT:=K o72_2 (L (b3o 15)) (L o200_15)
noncomputable def y179:BT:=K o88_4 (L (b3o 31)) (L o12_0)
noncomputable def y180:BT:=K o11_0 y179 y147
noncomputable def y181:BT:=K o84_2 (L (b3o 27)) (L o212_15)
noncomputable def y182:BT:=K o52_2 y181 y150
noncomputable def y183:BT:=K o76_2 (L (b3o 19)) (L o204_15)
noncomputable def y184 (P:Params):BT:=K (o82_2 P) (L (b3o 25)) (L o11_0)
noncomputable def y185:BT:=K o11_0 (L (b3o 17)) (L o202_15)
noncomputable def y186:BT:=K o12_0 (L (b3o 33)) (L o218_15)
noncomputable def y187:BT:=K o58_2 y186 y157
noncomputable def y188:BT:=K o11_0 (L (b3o 13)) (L o11_0)
noncomputable def y189:BT:=K o86_2 (L (b3o 29)) (L o214_15)
noncomputable def y190:BT:=K o12_0 y189 y158
noncomputable def y191:BT:=K o78_2 (L (b3o 21)) (L o12_0)
noncomputable def tr15 (P:Params):BT:=K (boot_o_0 P) (K (boot_o_1 P) (K (o3_15 P) (K (boot_o_7 P) (K o11_0 y126 (K o12_0 y162 y127)) (K o23_2 (K o11_0 y163 (y119 P)) y165)) (K o11_0 (K o19_1 y130 (K o51_2 y166 y131)) (K o27_2 (K o43_2 y167 y132) y169))) (K (boot_o_5 P) (K (boot_o_9 P) (K o17_1 y135 (K o11_0 y170 y136)) (K o11_0 (K o41_2 y171 (y121 P)) y173)) (K o13_0 (K o21_1 y139 y175) (K o29_2 (K o45_2 y176 y141) y143)))) (K (boot_o_2 P) (K (boot_o_4 P) (K (boot_o_8 P) (K o12_0 y145 (K o48_2 y177 y146)) (K (o24_2 P) (K o12_0 y178 (y123 P)) y180)) (K o12_15 (K o20_1 y149 y182) (K o28_2 (K o44_2 y183 y151) y153))) (K (boot_o_6 P) (K (boot_o_10 P) (K o11_0 y155 (K o50_2 (y184 P) y132)) (K o26_2 (K o11_0 y185 y156) y187)) (K o14_0 (K o11_0 (K o38_2 y188 y115) y190) (K o11_0 (K o11_0 y191 (y159 P)) y161))))
noncomputable def o3_16 (P:Params):Obj:=DI #[E P "__name__" 165 (S "law_sr0089_02" 2598),E P "__doc__" 166 .none,E P "__package__" 167 .none,E P "__loader__" 168 (.builtin "__main__.__loader__#opaque"),E P "__spec__" 169 .none,E P "__annotations__" 170 (r 6),E P "__builtins__" 171 (r 4),E P "__file__" 173 (S "/claim/cut.py" 172),E P "__cached__" 174 .none,E P "_wall" 193 (r 21),E P "Whitespace" 295 (r 83),E P "COMPILER_FLAG_NAMES" 328 (r 88),E P "pretty_flags" 338 (r 95),E P "_parse_varint" 347 (r 102),E P "b1_set" 409 (r 110),E P "in_table_b1" 416 (r 120),E P "b3_exceptions" 2367 (r 121),E P "map_table_b3" 2375 (r 166),E P "ENDMARKER" 2379 (.int 0 2378),E P "LPAR" 2381 (.int 7 2380),E P "RPAR" 2383 (.int 8 2382),E P "LSQB" 2385 (.int 9 2384),E P "RSQB" 2387 (.int 10 2386),E P "COLON" 2389 (.int 11 2388),E P "COMMA" 2391 (.int 12 2390),E P "SEMI" 2393 (.int 13 2392),E P "PLUS" 2395 (.int 14 2394),E P "MINUS" 2397 (.int 15 2396),E P "STAR" 2399 (.int 16 2398),E P "SLASH" 2401 (.int 17 2400),E P "VBAR" 2403 (.int 18 2402),E P "AMPER" 2405 (.int 19 2404),E P "LESS" 2407 (.int 20 2406),E P "GREATER" 2409 (.int 21 2408),E P "EQUAL" 2411 (.int 22 2410),E P "DOT" 2413 (.int 23 2412),E P "PERCENT" 2415 (.int 24 2414),E P "LBRACE" 2417 (.int 25 2416),E P "RBRACE" 2419 (.int 26 2418),E P "EQEQUAL" 2421 (.int 27 2420),E P "NOTEQUAL" 2423 (.int 28 2422),E P "LESSEQUAL" 2425 (.int 29 2424),E P "GREATEREQUAL" 2427 (.int 30 2426),E P "TILDE" 2429 (.int 31 2428),E P "CIRCUMFLEX" 2431 (.int 32 2430),E P "LEFTSHIFT" 2433 (.int 33 2432),E P "RIGHTSHIFT" 2435 (.int 34 2434),E P "DOUBLESTAR" 2437 (.int 35 2436),E P "PLUSEQUAL" 2439 (.int 36 2438),E P "MINEQUAL" 2441 (.int 37 2440),E P "STAREQUAL" 2443 (.int 38 2442),E P "SLASHEQUAL" 2445 (.int 39 2444),E P "PERCENTEQUAL" 2447 (.int 40 2446),E P "AMPEREQUAL" 2449 (.int 41 2448),E P "VBAREQUAL" 2451 (.int 42 2450),E P "CIRCUMFLEXEQUAL" 2453 (.int 43 2452),E P "LEFTSHIFTEQUAL" 2455 (.int 44 2454),E P "RIGHTSHIFTEQUAL" 2457 (.int 45 2456),E P "DOUBLESTAREQUAL" 2459 (.int 46 2458),E P "DOUBLESLASH" 2461 (.int 47 2460),E P "DOUBLESLASHEQUAL" 2463 (.int 48 2462),E P "AT" 2465 (.int 49 2464),E P "ATEQUAL" 2467 (.int 50 2466),E P "RARROW" 2469 (.int 51 2468),E P "ELLIPSIS" 2471 (.int 52 2470),E P "COLONEQUAL" 2473 (.int 53 2472),E P "EXCLAMATION" 2475 (.int 54 2474),E P "OP" 2477 (.int 55 2476),E P "NT_OFFSET" 2479 (.int 256 2478),E P "EXACT_TOKEN_TYPES" 2576 (r 167),E P "ISTERMINAL" 2583 (r 176),E P "ISNONTERMINAL" 2590 (r 183),E P "ISEOF" 2597 (r 190),E P "_law_numbers" 2606 (r 197),E P "_law_lead" 2614 (r 204),E P "_law_columns" 2620 (r 209),E P "_law_farther" 2626 (r 214),E P "_law_ups" 2632 (r 219),E P "_law_unseen" 2639 (r 226),E P "_law_operator" 2646 (r 233),E P "_law_spelled" 2652 (r 238),E P "_law_page" 2658 (r 243)] 82
noncomputable def o12_16:Obj:=FI .none #[i 1,i 0,.ref 20,i 5,i 0,.ref 27,i 63,i 0,.ref 94,i 75,i 0,.ref 101,i 85,i 0,.ref 119,i 88,i 0,.ref 165,i 146,i 0,.ref 175,i 148,i 0,.ref 182,i 150,i 0,.ref 189,i 153,i 0,.ref 196,i 155,i 0,.ref 203,i 158,i 0,.ref 208,i 163,i 0,.ref 213,i 166,i 0,.ref 218,i 168,i 0,.ref 225,i 170,i 0,.ref 232,i 172,i 0,.ref 237,i 175,i 0,.ref 242]
noncomputable def o222_16:Obj:=⟨(.type "tuple"),none,(.seq #[(S "d" 2636)] 0),#[]⟩
noncomputable def o224_16:Obj:=FO .none "_law_unseen" "_law_unseen" (stN 74) 0 .none .none
noncomputable def o225_16:Obj:=CO "_law_unseen" 2633 "_law_unseen" 2634 2635 168 1 0 0 3 220 true 181 221 .none (.ref 222) (.ref 223) (.ref 224) 2637 168 2638
noncomputable def o226_16:Obj:=FO (.type "function") "_law_unseen" "_law_unseen" (stN 74) 3 (S "law_sr0089_02" 2598) (.ref 225)
noncomputable def o229_16:Obj:=⟨(.type "tuple"),none,(.seq #[(S "d" 2643)] 0),#[]⟩
noncomputable def o231_16:Obj:=FO .none "_law_operator" "_law_operator" (stN 75) 0 .none .none
noncomputable def o232_16:Obj:=CO "_law_operator" 2640 "_law_operator" 2641 2642 170 1 0 0 3 227 true 181 228 .none (.ref 229) (.ref 230) (.ref 231) 2644 170 2645
noncomputable def o233_16:Obj:=FO (.type "function") "_law_operator" "_law_operator" (stN 75) 3 (S "law_sr0089_02" 2598) (.ref 232)
noncomputable def o236_16:Obj:=FO .none "_law_spelled" "_law_spelled" (stN 76) 0 .none .none
noncomputable def o237_16:Obj:=CO "_law_spelled" 2647 "_law_spelled" 2648 2649 172 2 0 0 3 234 true 181 235 .none .none .none (.ref 236) 2650 172 2651
noncomputable def o238_16:Obj:=FO (.type "function") "_law_spelled" "_law_spelled" (stN 76) 3 (S "law_sr0089_02" 2598) (.ref 237)
noncomputable def o241_16:Obj:=FO .none "_law_page" "_law_page" (stN 77) 0 .none .none
noncomputable def o242_16:Obj:=CO "_law_page" 2653 "_law_page" 2654 2655 175 3 0 0 3 239 true 181 240 .none .none .none (.ref 241) 2656 175 2657
noncomputable def o243_16:Obj:=FO (.type "function") "_law_page" "_law_page" (stN 77) 3 (S "law_sr0089_02" 2598) (.ref 242)
noncomputable def y192:BT:=K o95_5 (L (b3o 38)) (L o11_0)
noncomputable def y193:BT:=K o111_6 (L o175_14) (L o11_0)
noncomputable def y194:BT:=K o12_0 y162 y193
noncomputable def y195 (P:Params):BT:=K o103_6 (L (o167_13 P)) (L o231_16)
noncomputable def y196:BT:=K o12_0 (L o179_14) (L o243_16)
noncomputable def y197:BT:=K o51_2 y166 y196
noncomputable def y198:BT:=K o11_0 (L o12_0) (L o12_0)
noncomputable def y199:BT:=K o43_2 y167 y198
noncomputable def y200:BT:=K o12_0 (L o12_0) (L o225_16)
noncomputable def y201:BT:=K o113_6 (L o11_0) (L o241_16)
noncomputable def y202:BT:=K o11_0 y170 y201
noncomputable def y203 (P:Params):BT:=K o105_6 (L (o169_13 P)) (L o233_16)
noncomputable def y204:BT:=K o101_5 (L o165_9) (L o229_16)
noncomputable def y205:BT:=K o109_6 (L o11_0) (L o237_16)
noncomputable def y206:BT:=K o45_2 y176 y205
noncomputable def y207:BT:=K o93_5 (L (b3o 36)) (L o12_0)
noncomputable def y208:BT:=K o11_0 (L o11_0) (L o224_16)
noncomputable def y209:BT:=K o11_0 (L o176_14) (L o12_0)
noncomputable def y210:BT:=K o48_2 y177 y209
noncomputable def y211 (P:Params):BT:=K o104_6 (L (o168_13 P)) (L o232_16)
noncomputable def y212:BT:=K o100_5 (L o164_9) (L o12_0)
noncomputable def y213:BT:=K o108_6 (L o172_14) (L o236_16)
noncomputable def y214:BT:=K o44_2 y183 y213
noncomputable def y215:BT:=K o11_0 (L (b3o 35)) (L o11_0)
noncomputable def y216:BT:=K o98_5 (L o162_9) (L o226_16)
noncomputable def y217:BT:=K o11_0 (L o12_0) (L o242_16)
noncomputable def y218 (P:Params):BT:=K o50_2 (y184 P) y217
noncomputable def y219:BT:=K o106_6 (L o11_0) (L o11_0)
noncomputable def y220:BT:=K o11_0 y185 y219
noncomputable def y221:BT:=K o102_5 (L o166_9) (L o11_0)
noncomputable def y222 (P:Params):BT:=K (o110_6 P) (L o174_14) (L o238_16)
noncomputable def y223 (P:Params):BT:=K o11_0 y191 (y222 P)
noncomputable def y224:BT:=K o94_5 (L (b3o 37)) (L o222_16)
noncomputable def tr16 (P:Params):BT:=K (boot_o_0 P) (K (boot_o_1 P) (K (o3_16 P) (K (boot_o_7 P) (K o11_0 (K o31_2 y125 y192) y194) (K o23_2 (K o11_0 y163 (y195 P)) y165)) (K o11_0 (K o19_1 (K o11_0 y129 y27) y197) (K o27_2 y199 y169))) (K (boot_o_5 P) (K (boot_o_9 P) (K o17_1 (K o12_0 y134 y200) y202) (K o11_0 (K o41_2 y171 (y203 P)) y173)) (K o13_0 (K o21_1 (K o37_2 y138 y204) y175) (K o29_2 y206 (K o12_0 y207 y142))))) (K (boot_o_2 P) (K (boot_o_4 P) (K (boot_o_8 P) (K o12_0 (K o11_0 y144 y208) y210) (K (o24_2 P) (K o12_0 y178 (y211 P)) y180)) (K o12_16 (K o20_1 (K o36_2 y148 y212) y182) (K o28_2 y214 (K o11_0 y215 y152)))) (K (boot_o_6 P) (K (boot_o_10 P) (K o11_0 (K o34_2 y154 y216) (y218 P)) (K o26_2 y220 y187)) (K o14_0 (K o11_0 (K o38_2 y188 y221) y190) (K o11_0 (y223 P) (K o62_2 y224 y160)))))
noncomputable def o3_17 (P:Params):Obj:=DI #[E P "__name__" 165 (S "law_sr0089_02" 2598),E P "__doc__" 166 .none,E P "__package__" 167 .none,E P "__loader__" 168 (.builtin "__main__.__loader__#opaque"),E P "__spec__" 169 .none,E P "__annotations__" 170 (r 6),E P "__builtins__" 171 (r 4),E P "__file__" 173 (S "/claim/cut.py" 172),E P "__cached__" 174 .none,E P "_wall" 193 (r 21),E P "Whitespace" 295 (r 83),E P "COMPILER_FLAG_NAMES" 328 (r 88),E P "pretty_flags" 338 (r 95),E P "_parse_varint" 347 (r 102),E P "b1_set" 409 (r 110),E P "in_table_b1" 416 (r 120),E P "b3_exceptions" 2367 (r 121),E P "map_table_b3" 2375 (r 166),E P "ENDMARKER" 2379 (.int 0 2378),E P "LPAR" 2381 (.int 7 2380),E P "RPAR" 2383 (.int 8 2382),E P "LSQB" 2385 (.int 9 2384),E P "RSQB" 2387 (.int 10 2386),E P "COLON" 2389 (.int 11 2388),E P "COMMA" 2391 (.int 12 2390),E P "SEMI" 2393 (.int 13 2392),E P "PLUS" 2395 (.int 14 2394),E P "MINUS" 2397 (.int 15 2396),E P "STAR" 2399 (.int 16 2398),E P "SLASH" 2401 (.int 17 2400),E P "VBAR" 2403 (.int 18 2402),E P "AMPER" 2405 (.int 19 2404),E P "LESS" 2407 (.int 20 2406),E P "GREATER" 2409 (.int 21 2408),E P "EQUAL" 2411 (.int 22 2410),E P "DOT" 2413 (.int 23 2412),E P "PERCENT" 2415 (.int 24 2414),E P "LBRACE" 2417 (.int 25 2416),E P "RBRACE" 2419 (.int 26 2418),E P "EQEQUAL" 2421 (.int 27 2420),E P "NOTEQUAL" 2423 (.int 28 2422),E P "LESSEQUAL" 2425 (.int 29 2424),E P "GREATEREQUAL" 2427 (.int 30 2426),E P "TILDE" 2429 (.int 31 2428),E P "CIRCUMFLEX" 2431 (.int 32 2430),E P "LEFTSHIFT" 2433 (.int 33 2432),E P "RIGHTSHIFT" 2435 (.int 34 2434),E P "DOUBLESTAR" 2437 (.int 35 2436),E P "PLUSEQUAL" 2439 (.int 36 2438),E P "MINEQUAL" 2441 (.int 37 2440),E P "STAREQUAL" 2443 (.int 38 2442),E P "SLASHEQUAL" 2445 (.int 39 2444),E P "PERCENTEQUAL" 2447 (.int 40 2446),E P "AMPEREQUAL" 2449 (.int 41 2448),E P "VBAREQUAL" 2451 (.int 42 2450),E P "CIRCUMFLEXEQUAL" 2453 (.int 43 2452),E P "LEFTSHIFTEQUAL" 2455 (.int 44 2454),E P "RIGHTSHIFTEQUAL" 2457 (.int 45 2456),E P "DOUBLESTAREQUAL" 2459 (.int 46 2458),E P "DOUBLESLASH" 2461 (.int 47 2460),E P "DOUBLESLASHEQUAL" 2463 (.int 48 2462),E P "AT" 2465 (.int 49 2464),E P "ATEQUAL" 2467 (.int 50 2466),E P "RARROW" 2469 (.int 51 2468),E P "ELLIPSIS" 2471 (.int 52 2470),E P "COLONEQUAL" 2473 (.int 53 2472),E P "EXCLAMATION" 2475 (.int 54 2474),E P "OP" 2477 (.int 55 2476),E P "NT_OFFSET" 2479 (.int 256 2478),E P "EXACT_TOKEN_TYPES" 2576 (r 167),E P "ISTERMINAL" 2583 (r 176),E P "ISNONTERMINAL" 2590 (r 183),E P "ISEOF" 2597 (r 190),E P "_law_numbers" 2606 (r 197),E P "_law_lead" 2614 (r 204),E P "_law_columns" 2620 (r 209),E P "_law_farther" 2626 (r 214),E P "_law_ups" 2632 (r 219),E P "_law_unseen" 2639 (r 226),E P "_law_operator" 2646 (r 233),E P "_law_spelled" 2652 (r 238),E P "_law_page" 2658 (r 243),E P "_law_octets" 2664 (r 248),E P "_law_read" 2677 (r 255),E P "_law_sides" 2683 (r 260),E P "_law_truth" 2689 (r 265)] 86
noncomputable def o12_17:Obj:=FI .none #[i 1,i 0,.ref 20,i 5,i 0,.ref 27,i 63,i 0,.ref 94,i 75,i 0,.ref 101,i 85,i 0,.ref 119,i 88,i 0,.ref 165,i 146,i 0,.ref 175,i 148,i 0,.ref 182,i 150,i 0,.ref 189,i 153,i 0,.ref 196,i 155,i 0,.ref 203,i 158,i 0,.ref 208,i 163,i 0,.ref 213,i 166,i 0,.ref 218,i 168,i 0,.ref 225,i 170,i 0,.ref 232,i 172,i 0,.ref 237,i 175,i 0,.ref 242,i 188,i 0,.ref 247,i 197,i 0,.ref 254,i 214,i 0,.ref 259,i 225,i 0,.ref 264]
noncomputable def o246_17:Obj:=FO .none "_law_octets" "_law_octets" (stN 78) 0 .none .none
noncomputable def o247_17:Obj:=CO "_law_octets" 2659 "_law_octets" 2660 2661 188 1 0 0 3 244 true 181 245 .none .none .none (.ref 246) 2662 188 2663
noncomputable def o248_17:Obj:=FO (.type "function") "_law_octets" "_law_octets" (stN 78) 3 (S "law_sr0089_02" 2598) (.ref 247)
noncomputable def o251_17:Obj:=⟨(.type "tuple"),none,(.seq #[(S "octets" 2668),(S "iterator" 2669),(S "rows" 2670),(S "x" 2671),(S "told" 2672),(S "text" 2673),(S "op" 2674)] 0),#[]⟩
noncomputable def o253_17:Obj:=FO .none "_law_read" "_law_read" (stN 79) 0 .none .none
noncomputable def o254_17:Obj:=CO "_law_read" 2665 "_law_read" 2666 2667 197 1 0 0 3 249 true 181 250 .none (.ref 251) (.ref 252) (.ref 253) 2675 197 2676
noncomputable def o255_17:Obj:=FO (.type "function") "_law_read" "_law_read" (stN 79) 3 (S "law_sr0089_02" 2598) (.ref 254)
noncomputable def o258_17:Obj:=FO .none "_law_sides" "_law_sides" (stN 80) 0 .none .none
noncomputable def o259_17:Obj:=CO "_law_sides" 2678 "_law_sides" 2679 2680 214 2 0 0 3 256 true 181 257 .none .none .none (.ref 258) 2681 214 2682
noncomputable def o260_17:Obj:=FO (.type "function") "_law_sides" "_law_sides" (stN 80) 3 (S "law_sr0089_02" 2598) (.ref 259)
noncomputable def o263_17:Obj:=FO .none "_law_truth" "_law_truth" (stN 81) 0 .none .none
noncomputable def o264_17:Obj:=CO "_law_truth" 2684 "_law_truth" 2685 2686 225 3 0 0 3 261 true 181 262 .none .none .none (.ref 263) 2687 225 2688
noncomputable def o265_17:Obj:=FO (.type "function") "_law_truth" "_law_truth" (stN 81) 3 (S "law_sr0089_02" 2598) (.ref 264)
noncomputable def y225:BT:=K o31_2 (K o11_0 (K (b3o 6) (L o255_17) .nil) (L o11_0)) y192
noncomputable def y226 (P:Params):BT:=K o11_0 (K o71_2 (K (b3o 14) (L o263_17) .nil) (L o12_0)) (y195 P)
noncomputable def y227:BT:=K o119_7 (L o183_14) (L o247_17)
noncomputable def y228:BT:=K o11_0 (K o11_0 (K (b3o 10) (L o259_17) .nil) (L o195_14)) y27
noncomputable def y229:BT:=K (b3o 2) (L o11_0) (L o251_17)
noncomputable def y230:BT:=K o12_0 (K o65_2 (K (b3o 8) (L o12_0) .nil) (L o193_14)) y200
noncomputable def y231 (P:Params):BT:=K o41_2 (K o73_2 (K (b3o 16) (L o265_17) .nil) (L o11_0)) (y203 P)
noncomputable def y232:BT:=K (b3o 0) (L o12_0) (L o11_0)
noncomputable def y233:BT:=K o37_2 (K o69_2 (K (b3o 12) (L o11_0) .nil) (L o197_14)) y204
noncomputable def y234:BT:=K o11_0 (L o181_14) (L o12_0)
noncomputable def y235:BT:=K (b3o 4) (L o189_14) (L o253_17)
noncomputable def y236:BT:=K o11_0 (K o64_2 (K (b3o 7) (L o11_0) .nil) (L o12_0)) y208
noncomputable def y237 (P:Params):BT:=K o12_0 (K o72_2 (K (b3o 15) (L o264_17) .nil) (L o200_15)) (y211 P)
noncomputable def y238:BT:=K o120_7 (L o11_0) (L o248_17)
noncomputable def y239:BT:=K o36_2 (K o12_0 (K (b3o 11) (L o260_17) .nil) (L o196_14)) y212
noncomputable def y240:BT:=K o116_7 (L o11_0) (L o11_0)
noncomputable def y241:BT:=K (b3o 3) (L o188_14) (L o11_0)
noncomputable def y242:BT:=K o34_2 (K o66_2 (K (b3o 9) (L o258_17) .nil) (L o11_0)) y216
noncomputable def y243:BT:=K (b3o 1) (L o186_14) (L o12_0)
noncomputable def y244:BT:=K o38_2 (K o11_0 (K (b3o 13) (L o12_0) .nil) (L o11_0)) y221
noncomputable def y245:BT:=K o118_7 (L o182_14) (L o246_17)
noncomputable def y246:BT:=K o62_2 y224 (K (b3o 5) (L o190_14) (L o254_17))
noncomputable def tr17 (P:Params):BT:=K (boot_o_0 P) (K (boot_o_1 P) (K (o3_17 P) (K (boot_o_7 P) (K o11_0 y225 y194) (K o23_2 (y226 P) (K o55_2 y164 y227))) (K o11_0 (K o19_1 y228 y197) (K o27_2 y199 (K o59_2 y168 y229)))) (K (boot_o_5 P) (K (boot_o_9 P) (K o17_1 y230 y202) (K o11_0 (y231 P) (K o57_2 y172 y232))) (K o13_0 (K o21_1 y233 (K o11_0 y174 y234)) (K o29_2 y206 (K o12_0 y207 y235))))) (K (boot_o_2 P) (K (boot_o_4 P) (K (boot_o_8 P) (K o12_0 y236 y210) (K (o24_2 P) (y237 P) (K o11_0 y179 y238))) (K o12_17 (K o20_1 y239 (K o52_2 y181 y240)) (K o28_2 y214 (K o11_0 y215 y241)))) (K (boot_o_6 P) (K (boot_o_10 P) (K o11_0 y242 (y218 P)) (K o26_2 y220 (K o58_2 y186 y243))) (K o14_0 (K o11_0 y244 (K o12_0 y189 y245)) (K o11_0 (y223 P) y246))))
noncomputable def o3_18 (P:Params):Obj:=DI #[E P "__name__" 165 (S "law_sr0089_02" 2598),E P "__doc__" 166 .none,E P "__package__" 167 .none,E P "__loader__" 168 (.builtin "__main__.__loader__#opaque"),E P "__spec__" 169 .none,E P "__annotations__" 170 (r 6),E P "__builtins__" 171 (r 4),E P "__file__" 173 (S "/claim/cut.py" 172),E P "__cached__" 174 .none,E P "_wall" 193 (r 21),E P "Whitespace" 295 (r 83),E P "COMPILER_FLAG_NAMES" 328 (r 88),E P "pretty_flags" 338 (r 95),E P "_parse_varint" 347 (r 102),E P "b1_set" 409 (r 110),E P "in_table_b1" 416 (r 120),E P "b3_exceptions" 2367 (r 121),E P "map_table_b3" 2375 (r 166),E P "ENDMARKER" 2379 (.int 0 2378),E P "LPAR" 2381 (.int 7 2380),E P "RPAR" 2383 (.int 8 2382),E P "LSQB" 2385 (.int 9 2384),E P "RSQB" 2387 (.int 10 2386),E P "COLON" 2389 (.int 11 2388),E P "COMMA" 2391 (.int 12 2390),E P "SEMI" 2393 (.int 13 2392),E P "PLUS" 2395 (.int 14 2394),E P "MINUS" 2397 (.int 15 2396),E P "STAR" 2399 (.int 16 2398),E P "SLASH" 2401 (.int 17 2400),E P "VBAR" 2403 (.int 18 2402),E P "AMPER" 2405 (.int 19 2404),E P "LESS" 2407 (.int 20 2406),E P "GREATER" 2409 (.int 21 2408),E P "EQUAL" 2411 (.int 22 2410),E P "DOT" 2413 (.int 23 2412),E P "PERCENT" 2415 (.int 24 2414),E P "LBRACE" 2417 (.int 25 2416),E P "RBRACE" 2419 (.int 26 2418),E P "EQEQUAL" 2421 (.int 27 2420),E P "NOTEQUAL" 2423 (.int 28 2422),E P "LESSEQUAL" 2425 (.int 29 2424),E P "GREATEREQUAL" 2427 (.int 30 2426),E P "TILDE" 2429 (.int 31 2428),E P "CIRCUMFLEX" 2431 (.int 32 2430),E P "LEFTSHIFT" 2433 (.int 33 2432),E P "RIGHTSHIFT" 2435 (.int 34 2434),E P "DOUBLESTAR" 2437 (.int 35 2436),E P "PLUSEQUAL" 2439 (.int 36 2438),E P "MINEQUAL" 2441 (.int 37 2440),E P "STAREQUAL" 2443 (.int 38 2442),E P "SLASHEQUAL" 2445 (.int 39 2444),E P "PERCENTEQUAL" 2447 (.int 40 2446),E P "AMPEREQUAL" 2449 (.int 41 2448),E P "VBAREQUAL" 2451 (.int 42 2450),E P "CIRCUMFLEXEQUAL" 2453 (.int 43 2452),E P "LEFTSHIFTEQUAL" 2455 (.int 44 2454),E P "RIGHTSHIFTEQUAL" 2457 (.int 45 2456),E P "DOUBLESTAREQUAL" 2459 (.int 46 2458),E P "DOUBLESLASH" 2461 (.int 47 2460),E P "DOUBLESLASHEQUAL" 2463 (.int 48 2462),E P "AT" 2465 (.int 49 2464),E P "ATEQUAL" 2467 (.int 50 2466),E P "RARROW" 2469 (.int 51 2468),E P "ELLIPSIS" 2471 (.int 52 2470),E P "COLONEQUAL" 2473 (.int 53 2472),E P "EXCLAMATION" 2475 (.int 54 2474),E P "OP" 2477 (.int 55 2476),E P "NT_OFFSET" 2479 (.int 256 2478),E P "EXACT_TOKEN_TYPES" 2576 (r 167),E P "ISTERMINAL" 2583 (r 176),E P "ISNONTERMINAL" 2590 (r 183),E P "ISEOF" 2597 (r 190),E P "_law_numbers" 2606 (r 197),E P "_law_lead" 2614 (r 204),E P "_law_columns" 2620 (r 209),E P "_law_farther" 2626 (r 214),E P "_law_ups" 2632 (r 219),E P "_law_unseen" 2639 (r 226),E P "_law_operator" 2646 (r 233),E P "_law_spelled" 2652 (r 238),E P "_law_page" 2658 (r 243),E P "_law_octets" 2664 (r 248),E P "_law_read" 2677 (r 255),E P "_law_sides" 2683 (r 260),E P "_law_truth" 2689 (r 265),E P "_law_words" 2695 (r 270),E P "_law_least" 2701 (r 275),E P "_law_bars" 2707 (r 280),E P "law" 2713 (r 285)] 90
noncomputable def o12_18:Obj:=FI .none #[i 1,i 0,.ref 20,i 5,i 0,.ref 27,i 63,i 0,.ref 94,i 75,i 0,.ref 101,i 85,i 0,.ref 119,i 88,i 0,.ref 165,i 146,i 0,.ref 175,i 148,i 0,.ref 182,i 150,i 0,.ref 189,i 153,i 0,.ref 196,i 155,i 0,.ref 203,i 158,i 0,.ref 208,i 163,i 0,.ref 213,i 166,i 0,.ref 218,i 168,i 0,.ref 225,i 170,i 0,.ref 232,i 172,i 0,.ref 237,i 175,i 0,.ref 242,i 188,i 0,.ref 247,i 197,i 0,.ref 254,i 214,i 0,.ref 259,i 225,i 0,.ref 264,i 238,i 0,.ref 269,i 241,i 0,.ref 274,i 246,i 0,.ref 279,i 252,i 0,.ref 284]
noncomputable def o268_18:Obj:=FO .none "_law_words" "_law_words" (stN 82) 0 .none .none
noncomputable def o269_18:Obj:=CO "_law_words" 2690 "_law_words" 2691 2692 238 1 0 0 3 266 true 181 267 .none .none .none (.ref 268) 2693 238 2694
noncomputable def o270_18:Obj:=FO (.type "function") "_law_words" "_law_words" (stN 82) 3 (S "law_sr0089_02" 2598) (.ref 269)
noncomputable def o273_18:Obj:=FO .none "_law_least" "_law_least" (stN 83) 0 .none .none
noncomputable def o274_18:Obj:=CO "_law_least" 2696 "_law_least" 2697 2698 241 2 0 0 3 271 true 181 272 .none .none .none (.ref 273) 2699 241 2700
noncomputable def o275_18:Obj:=FO (.type "function") "_law_least" "_law_least" (stN 83) 3 (S "law_sr0089_02" 2598) (.ref 274)
noncomputable def o278_18:Obj:=FO .none "_law_bars" "_law_bars" (stN 84) 0 .none .none
noncomputable def o279_18:Obj:=CO "_law_bars" 2702 "_law_bars" 2703 2704 246 2 0 0 3 276 true 181 277 .none .none .none (.ref 278) 2705 246 2706
noncomputable def o280_18:Obj:=FO (.type "function") "_law_bars" "_law_bars" (stN 84) 3 (S "law_sr0089_02" 2598) (.ref 279)
noncomputable def o283_18:Obj:=FO .none "law" "law" (stN 85) 0 .none .none
noncomputable def o284_18:Obj:=CO "law" 2708 "law" 2709 2710 252 1 0 0 3 281 true 181 282 .none .none .none (.ref 283) 2711 252 2712
noncomputable def o285_18:Obj:=FO (.type "function") "law" "law" (stN 85) 3 (S "law_sr0089_02" 2598) (.ref 284)
noncomputable def tr18 (P:Params):BT:=K (boot_o_0 P) (K (boot_o_1 P) (K (o3_18 P) (K (boot_o_7 P) (K o11_0 y225 (K o12_0 (K o79_2 (K (b3o 22) (L o11_0) .nil) (L o207_15)) y193)) (K o23_2 (y226 P) (K o55_2 (K o87_2 (K (b3o 30) (L o279_18) .nil) (L o11_0)) y227))) (K o11_0 (K o19_1 y228 (K o51_2 (K o83_2 (K (b3o 26) (L o275_18) .nil) (L o12_0)) y196)) (K o27_2 (K o43_2 (K o12_0 (K (b3o 18) (L o12_0) .nil) (L o203_15)) y198) (K o59_2 (K o91_5 (K (b3o 34) (L o283_18) .nil) (L o219_15)) y229)))) (K (boot_o_5 P) (K (boot_o_9 P) (K o17_1 y230 (K o11_0 (K o81_2 (K (b3o 24) (L o273_18) .nil) (L o209_15)) y201)) (K o11_0 (y231 P) (K o57_2 (K o11_0 (K (b3o 32) (L o11_0) .nil) (L o217_15)) y232))) (K o13_0 (K o21_1 y233 (K o11_0 (K o85_2 (K (b3o 28) (L o12_0) .nil) (L o213_15)) y234)) (K o29_2 (K o45_2 (K o11_0 (K (b3o 20) (L o269_18) .nil) (L o11_0)) y205) (K o12_0 (K o93_5 (K (b3o 36) (L o285_18) .nil) (L o12_0)) y235))))) (K (boot_o_2 P) (K (boot_o_4 P) (K (boot_o_8 P) (K o12_0 y236 (K o48_2 (K o80_2 (K (b3o 23) (L o12_0) .nil) (L o208_15)) y209)) (K (o24_2 P) (y237 P) (K o11_0 (K o88_4 (K (b3o 31) (L o280_18) .nil) (L o12_0)) y238))) (K o12_18 (K o20_1 y239 (K o52_2 (K o84_2 (K (b3o 27) (L o11_0) .nil) (L o212_15)) y240)) (K o28_2 (K o44_2 (K o76_2 (K (b3o 19) (L o268_18) .nil) (L o204_15)) y213) (K o11_0 (K o11_0 (K (b3o 35) (L o284_18) .nil) (L o11_0)) y241)))) (K (boot_o_6 P) (K (boot_o_10 P) (K o11_0 y242 (K o50_2 (K (o82_2 P) (K (b3o 25) (L o274_18) .nil) (L o11_0)) y217)) (K o26_2 (K o11_0 (K o11_0 (K (b3o 17) (L o11_0) .nil) (L o202_15)) y219) (K o58_2 (K o12_0 (K (b3o 33) (L o12_0) .nil) (L o218_15)) y243))) (K o14_0 (K o11_0 y244 (K o12_0 (K o86_2 (K (b3o 29) (L o278_18) .nil) (L o214_15)) y245)) (K o11_0 (K o11_0 (K o78_2 (K (b3o 21) (L o270_18) .nil) (L o12_0)) (y222 P)) y246))))
noncomputable def hpF (P:Params):Heap:=⟨Array.mk [(boot_o_0 P),(boot_o_1 P),(boot_o_2 P),(o3_18 P),(boot_o_4 P),(boot_o_5 P),(boot_o_6 P),(boot_o_7 P),(boot_o_8 P),(boot_o_9 P),(boot_o_10 P),o11_0,o12_18,o13_0,o14_0,o11_0,o12_0,o17_1,o11_0,o19_1,o20_1,o21_1,o11_0,o23_2,(o24_2 P),o11_0,o26_2,o27_2,o28_2,o29_2,o11_0,o31_2,o11_0,o12_0,o34_2,o11_0,o36_2,o37_2,o38_2,o11_0,o12_0,o41_2,o11_0,o43_2,o44_2,o45_2,o11_0,o12_0,o48_2,o11_0,o50_2,o51_2,o52_2,o11_0,o12_0,o55_2,o11_0,o57_2,o58_2,o59_2,o11_0,o12_0,o62_2,o11_0,o64_2,o65_2,o66_2,o11_0,o12_0,o69_2,o11_0,o71_2,o72_2,o73_2,o11_0,o12_0,o76_2,o11_0,o78_2,o79_2,o80_2,o81_2,(o82_2 P),o83_2,o84_2,o85_2,o86_2,o87_2,o88_4,o11_0,o12_0,o91_5,o11_0,o93_5,o94_5,o95_5,o11_0,o12_0,o98_5,o11_0,o100_5,o101_5,o102_5,o103_6,o104_6,o105_6,o106_6,o11_0,o108_6,o109_6,(o110_6 P),o111_6,o11_0,o113_6,o11_0,o12_0,o116_7,o11_0,o118_7,o119_7,o120_7,(b3o 0),(b3o 1),(b3o 2),(b3o 3),(b3o 4),(b3o 5),(b3o 6),(b3o 7),(b3o 8),(b3o 9),(b3o 10),(b3o 11),(b3o 12),(b3o 13),(b3o 14),(b3o 15),(b3o 16),(b3o 17),(b3o 18),(b3o 19),(b3o 20),(b3o 21),(b3o 22),(b3o 23),(b3o 24),(b3o 25),(b3o 26),(b3o 27),(b3o 28),(b3o 29),(b3o 30),(b3o 31),(b3o 32),(b3o 33),(b3o 34),(b3o 35),(b3o 36),(b3o 37),(b3o 38),o11_0,o12_0,o162_9,o11_0,o164_9,o165_9,o166_9,(o167_13 P),(o168_13 P),(o169_13 P),o11_0,o12_0,o172_14,o11_0,o174_14,o175_14,o176_14,o11_0,o12_0,o179_14,o11_0,o181_14,o182_14,o183_14,o11_0,o12_0,o186_14,o11_0,o188_14,o189_14,o190_14,o11_0,o12_0,o193_14,o11_0,o195_14,o196_14,o197_14,o11_0,o12_0,o200_15,o11_0,o202_15,o203_15,o204_15,o11_0,o12_0,o207_15,o208_15,o209_15,o11_0,o12_0,o212_15,o213_15,o214_15,o11_0,o12_0,o217_15,o218_15,o219_15,o11_0,o12_0,o222_16,o11_0,o224_16,o225_16,o226_16,o11_0,o12_0,o229_16,o11_0,o231_16,o232_16,o233_16,o11_0,o12_0,o236_16,o237_16,o238_16,o11_0,o12_0,o241_16,o242_16,o243_16,o11_0,o12_0,o246_17,o247_17,o248_17,o11_0,o12_0,o251_17,o11_0,o253_17,o254_17,o255_17,o11_0,o12_0,o258_17,o259_17,o260_17,o11_0,o12_0,o263_17,o264_17,o265_17,o11_0,o12_0,o268_18,o269_18,o270_18,o11_0,o12_0,o273_18,o274_18,o275_18,o11_0,o12_0,o278_18,o279_18,o280_18,o11_0,o12_0,o283_18,o284_18,o285_18],{}⟩
noncomputable def g0L (w:World):=goS w (part 0 2) ⟨0,0,0,0⟩ (tr0 w.params) 15 187
noncomputable def g0R (w:World):Res (Except Value Flow):=some (.ok .next,⟨4,0,4,8⟩,tr1 w.params,22,196,38)
theorem g0 (w:World):g0L w=g0R w:=by kernel_rfl
noncomputable def g1L (w:World):=goS w (part 2 1) ⟨4,0,4,8⟩ (tr1 w.params) 22 196
noncomputable def g1R (w:World):Res (Except Value Flow):=some (.ok .next,⟨5,0,60,16⟩,tr2 w.params,88,296,492)
theorem g1_false (w:World):g1L (w.withFollow "special-get-raises" false)=g1R (w.withFollow "special-get-raises" false):=by kernel_rfl
theorem g1_true (w:World):g1L (w.withFollow "special-get-raises" true)=g1R (w.withFollow "special-get-raises" true):=by kernel_rfl
theorem g1 (w:World):g1L w=g1R w:=byRow2 "special-get-raises" (P:=fun w=>g1L w=g1R w) g1_false g1_true w
noncomputable def g2L (w:World):=goS w (part 3 1) ⟨5,0,60,16⟩ (tr2 w.params) 88 296
noncomputable def g2R (w:World):Res (Except Value Flow):=some (.ok .next,⟨61,0,61,8⟩,tr3 w.params,88,298,9)
theorem g2 (w:World):g2L w=g2R w:=by kernel_rfl
noncomputable def g3L (w:World):=goS w (part 4 1) ⟨61,0,61,8⟩ (tr3 w.params) 88 298
noncomputable def g3R (w:World):Res (Except Value Flow):=some (.ok .next,⟨62,0,62,19⟩,tr4 w.params,89,329,140)
theorem g3_false (w:World):g3L (w.withFollow "special-get-raises" false)=g3R (w.withFollow "special-get-raises" false):=by kernel_rfl
theorem g3_true (w:World):g3L (w.withFollow "special-get-raises" true)=g3R (w.withFollow "special-get-raises" true):=by kernel_rfl
theorem g3 (w:World):g3L w=g3R w:=byRow2 "special-get-raises" (P:=fun w=>g3L w=g3R w) g3_false g3_true w
noncomputable def g4L (w:World):=goS w (part 5 3) ⟨62,0,62,19⟩ (tr4 w.params) 89 329
noncomputable def g4R (w:World):Res (Except Value Flow):=some (.ok .next,⟨83,0,83,8⟩,tr5 w.params,103,350,72)
theorem g4 (w:World):g4L w=g4R w:=by kernel_rfl
noncomputable def g5L (w:World):=goS w (part 8 1) ⟨83,0,83,8⟩ (tr5 w.params) 103 350
noncomputable def g5R (w:World):Res (Except Value Flow):=some (.ok .next,⟨84,0,84,6⟩,tr6 w.params,114,410,998)
theorem g5_false_false (w:World):g5L ((w.withFollow "special-get-raises" false).withFollow "set-order" false)=g5R ((w.withFollow "special-get-raises" false).withFollow "set-order" false):=by kernel_rfl
theorem g5_false_true (w:World):g5L ((w.withFollow "special-get-raises" true).withFollow "set-order" false)=g5R ((w.withFollow "special-get-raises" true).withFollow "set-order" false):=by kernel_rfl
theorem g5_false (w:World):g5L (w.withFollow "set-order" false)=g5R (w.withFollow "set-order" false):=byRow2 "special-get-raises" (P:=fun w=>g5L (w.withFollow "set-order" false)=g5R (w.withFollow "set-order" false)) g5_false_false g5_false_true w
theorem g5_true_false (w:World):g5L ((w.withFollow "special-get-raises" false).withFollow "set-order" true)=g5R ((w.withFollow "special-get-raises" false).withFollow "set-order" true):=by kernel_rfl
theorem g5_true_true (w:World):g5L ((w.withFollow "special-get-raises" true).withFollow "set-order" true)=g5R ((w.withFollow "special-get-raises" true).withFollow "set-order" true):=by kernel_rfl
theorem g5_true (w:World):g5L (w.withFollow "set-order" true)=g5R (w.withFollow "set-order" true):=byRow2 "special-get-raises" (P:=fun w=>g5L (w.withFollow "set-order" true)=g5R (w.withFollow "set-order" true)) g5_true_false g5_true_true w
theorem g5 (w:World):g5L w=g5R w:=byRow2 "set-order" (P:=fun w=>g5L w=g5R w) g5_false g5_true w
noncomputable def g6L (w:World):=goS w (part 9 1) ⟨84,0,84,6⟩ (tr6 w.params) 114 410
noncomputable def g6R (w:World):Res (Except Value Flow):=some (.ok .next,⟨85,0,86,30⟩,tr7 w.params,121,417,29)
theorem g6 (w:World):g6L w=g6R w:=by kernel_rfl
noncomputable def g8L (w:World):=goS w (part 11 12) ⟨87,0,87,13⟩ (tr8 w.params) 160 2368
noncomputable def g8R (w:World):Res (Except Value Flow):=some (.ok .next,⟨103,0,103,5⟩,tr9 w.params,167,2398,129)
theorem g8 (w:World):g8L w=g8R w:=by kernel_rfl
noncomputable def g9L (w:World):=goS w (part 23 14) ⟨103,0,103,5⟩ (tr9 w.params) 167 2398
noncomputable def g9R (w:World):Res (Except Value Flow):=some (.ok .next,⟨117,0,117,9⟩,tr10 w.params,167,2426,126)
theorem g9 (w:World):g9L w=g9R w:=by kernel_rfl
noncomputable def g10L (w:World):=goS w (part 37 14) ⟨117,0,117,9⟩ (tr10 w.params) 167 2426
noncomputable def g10R (w:World):Res (Except Value Flow):=some (.ok .next,⟨131,0,131,15⟩,tr11 w.params,167,2454,126)
theorem g10 (w:World):g10L w=g10R w:=by kernel_rfl
noncomputable def g11L (w:World):=goS w (part 51 13) ⟨131,0,131,15⟩ (tr11 w.params) 167 2454
noncomputable def g11R (w:World):Res (Except Value Flow):=some (.ok .next,⟨144,0,144,9⟩,tr12 w.params,167,2480,117)
theorem g11 (w:World):g11L w=g11R w:=by kernel_rfl
noncomputable def g12L (w:World):=goS w (part 64 1) ⟨144,0,144,9⟩ (tr12 w.params) 167 2480
noncomputable def g12R (w:World):Res (Except Value Flow):=some (.ok .next,⟨145,0,145,17⟩,tr13 w.params,170,2577,978)
theorem g12_false (w:World):g12L (w.withFollow "special-get-raises" false)=g12R (w.withFollow "special-get-raises" false):=by kernel_rfl
theorem g12_true (w:World):g12L (w.withFollow "special-get-raises" true)=g12R (w.withFollow "special-get-raises" true):=by kernel_rfl
theorem g12 (w:World):g12L w=g12R w:=byRow2 "special-get-raises" (P:=fun w=>g12L w=g12R w) g12_false g12_true w
noncomputable def g13L (w:World):=goS w (part 65 5) ⟨145,0,145,17⟩ (tr13 w.params) 170 2577
noncomputable def g13R (w:World):Res (Except Value Flow):=some (.ok .next,⟨153,0,154,80⟩,tr14 w.params,198,2607,125)
theorem g13 (w:World):g13L w=g13R w:=by kernel_rfl
noncomputable def g14L (w:World):=goS w (part 70 4) ⟨153,0,154,80⟩ (tr14 w.params) 198 2607
noncomputable def g14R (w:World):Res (Except Value Flow):=some (.ok .next,⟨166,0,167,82⟩,tr15 w.params,220,2633,108)
theorem g14 (w:World):g14L w=g14R w:=by kernel_rfl
noncomputable def g15L (w:World):=goS w (part 74 4) ⟨166,0,167,82⟩ (tr15 w.params) 220 2633
noncomputable def g15R (w:World):Res (Except Value Flow):=some (.ok .next,⟨175,0,187,39⟩,tr16 w.params,244,2659,110)
theorem g15 (w:World):g15L w=g15R w:=by kernel_rfl
noncomputable def g16L (w:World):=goS w (part 78 4) ⟨175,0,187,39⟩ (tr16 w.params) 244 2659
noncomputable def g16R (w:World):Res (Except Value Flow):=some (.ok .next,⟨225,0,237,64⟩,tr17 w.params,266,2690,113)
theorem g16 (w:World):g16L w=g16R w:=by kernel_rfl
noncomputable def g17L (w:World):=goS w (part 82 4) ⟨225,0,237,64⟩ (tr17 w.params) 266 2690
noncomputable def g17R (w:World):Res (Except Value Flow):=some (.ok .next,⟨252,0,271,85⟩,tr18 w.params,286,2714,104)
theorem g17 (w:World):g17L w=g17R w:=by kernel_rfl
noncomputable def tgtB:List PySem.Expr:=match stN 10 with
 | .Assign ts _ _=>ts
 | _=>[]
noncomputable def stpB:Pos:=match stN 10 with
 | .Assign _ _ p=>p
 | _=>default
noncomputable def semsOf:List (Option PySem.Expr) → List PySem.Expr → List (Sem Value × Sem Value)
 | some k :: ks,v :: vs=>(eval k env0,do let x ← eval v env0; standAt posB; pure x) :: semsOf ks vs
 | _,_=>[]
noncomputable def xsB:List (Sem Value × Sem Value):=semsOf keysB valsB
section
variable {w:World}
theorem keyI_some {k:Option PySem.Expr} {i:Int} (h:keyI k=some i):∃ x y,k=some (.Constant (.int i) x y):=by
 unfold keyI at h
 split at h
 ·cases h; exact ⟨_,_,rfl⟩
 ·cases h
theorem txtS_some {v:PySem.Expr} {s:PySem.Str} (h:txtS v=some s):∃ x y,v=.Constant (.str s) x y:=by
 unfold txtS at h
 split at h
 ·cases h; exact ⟨_,_,rfl⟩
 ·cases h
theorem isPr_of {k:Option PySem.Expr} {v:PySem.Expr} {a:Pr} (h:prOf k v=some a):∃ k',k=some k' ∧ IsPr pw w 11 (some (.ref 6)) code0 below0 (eval k' env0,do let x ← eval v env0; standAt posB; pure x) a:=by
 obtain ⟨i,e1,g⟩:=onO_some h
 obtain ⟨s,e2,g2⟩:=onO_some g
 obtain ⟨hc,g3⟩:=onB_some g2
 obtain ⟨_,_,rfl⟩:=keyI_some e1
 obtain ⟨_,_,rfl⟩:=txtS_some e2
 ·cases g3
  ·refine ⟨_,rfl,?_,fun T n k=>⟨?_,?_⟩⟩
   ·simpa using hc
   ·show GE _ _ _ _ _ _ _ (mkInt _) _ _ _ _ _ _ _ _
    exact GE.bind (B1:=1) (B2:=0) GE.fresh GE.pure
   ·refine GE.bind (B1:=1) (B2:=1) (a:=.str s k) (T1:=T) (n1:=n) (k1:=k + 1) ?_ ?_
    ·show GE _ _ _ _ _ _ _ (mkText _) _ _ _ _ _ _ _ _
     exact GE.bind (B1:=1) (B2:=0) GE.fresh GE.pure
    ·exact GE.bind (B1:=1) (B2:=0) GE.standAt GE.pure
theorem arePr_of:∀ (ks:List (Option PySem.Expr)) (vs:List PySem.Expr) (as:List Pr),prsOf ks vs=some as → ArePr pw w 11 (some (.ref 6)) code0 below0 (semsOf ks vs) as
 | [],[],as,h=>by cases h; exact .nil
 | [],_ :: _,_,h=>by cases h
 | _ :: _,[],_,h=>by simp [prsOf] at h
 | k :: ks,v :: vs,as,h=>by
  unfold prsOf at h
  cases h1:prOf k v with
  | none=>rw [h1] at h; cases h
  | some a=>
   rw [h1] at h
   cases h2:prsOf ks vs with
   | none=>rw [h2] at h; cases h
   | some as'=>
    rw [h2] at h
    cases h
    obtain ⟨k',rfl,hp⟩:=isPr_of (w:=w) h1
    exact .cons hp (arePr_of ks vs as' h2)
end
theorem b3_prs:prsOf keysB valsB=some (b3c0 ++ (b3chs.flatten ++ b3last)):=by kernel_rfl
noncomputable def keysOk:List (List Pr) → Bool
 | []=>true
 | c :: r=>Nat.beq c.length 17 && keysOk r
noncomputable def rising:Int → List Pr → Bool
 | _,[]=>true
 | i,a :: r=>decide (i < a.1) && rising a.1 r
theorem rising_lt:∀ (l:List Pr) (i:Int),rising i l=true → ∀ a ∈ l,i < a.1
 | [],_,_,_,h=>nomatch h
 | b :: r,i,h,a,ha=>by
  obtain ⟨h1,h2⟩:=Bool.and_eq_true_iff.mp h
  rcases List.mem_cons.mp ha with rfl | ha
  ·exact of_decide_eq_true h1
  ·exact Int.lt_trans (of_decide_eq_true h1) (rising_lt r _ h2 a ha)
theorem rising_nodup:∀ (l:List Pr) (i:Int),rising i l=true → (l.map (·.1)).Nodup
 | [],_,_=>.nil
 | b :: r,i,h=>by
  obtain ⟨h1,h2⟩:=Bool.and_eq_true_iff.mp h
  rw [List.map_cons,List.nodup_cons]
  refine ⟨fun q=>?_,rising_nodup r _ h2⟩
  obtain ⟨a,ha,e⟩:=List.mem_map.mp q
  have:=rising_lt r _ h2 a ha
  omega
theorem b3_nodup:((b3c0 ++ (b3chs.flatten ++ b3last)).map (·.1)).Nodup:=rising_nodup _ (-1) (by kernel_rfl)
theorem b3_lens:∀ c ∈ b3chs,c.length=17:=by
 have:b3chs.all (fun c=>Nat.beq c.length 17)=true:=by kernel_rfl
 intro c hc
 exact Nat.eq_of_beq_eq_true (List.all_eq_true.mp this c hc)
theorem b3_last:∀ a ∈ b3last,0 ≤ a.1 ∧ a.1 < 2000000:=by
 have:b3last.all (fun a=>decide (0 ≤ a.1) && decide (a.1 < 2000000))=true:=by kernel_rfl
 intro a ha
 have:=List.all_eq_true.mp this a ha
 simpa using this
noncomputable def fullB (T:BT):Nat → Bool
 | 0=>true
 | n + 1=>(T.get n).isSome && fullB T n
theorem full_of (T:BT):∀ n,fullB T n=true → Full T n
 | 0,_,i,hi=>absurd hi (Nat.not_lt_zero _)
 | n + 1,h,i,hi=>by
  obtain ⟨h1,h2⟩:=Bool.and_eq_true_iff.mp h
  by_cases e:i=n
  ·rw [e]; exact h1
  ·exact full_of T n h2 i (by omega)
theorem b3_full (P:Params):Full (tr7 P) 121:=full_of _ _ (by kernel_rfl)
noncomputable def trB (P:Params):BT:=accT 121 b3chs ((tr7 P).ins 121 (dObj (mkEs b3c0 417) 17)) 122 468 (mkEs b3c0 417)
noncomputable def trC (P:Params):BT:=((trB P).ins 159 (dObj (mkSh b3last 2355) 4)).set 121 fun zz=>dObj (esB ++ mkSh b3last 2355) (esB.length + 4)
theorem b3_items:(evalEachOpt keysB env0).zip ((evalEach valsB env0).map fun v=>do let x ← v; standAt posB; pure x)=items xsB:=by kernel_rfl
theorem b3_disp (w:World):GE (cQ pw w 11 (some (.ref 6))) pw w 11 (some (.ref 6)) code0 below0 (dictDisplay (items xsB)) (tr7 w.params) 121 417 (.ref 121) (trC w.params) 160 2367 15800:=by
 have h:=ge_display (p:=pw) (w:=w) (n₀:=11) (ann:=some (.ref 6)) (code:=code0) (below:=below0) (arePr_of _ _ _ b3_prs) (by kernel_rfl) b3_lens (by decide +kernel) (by decide +kernel) b3_last (T:=tr7 w.params) (n:=121) (k:=417) (b3_full _) (by decide) (by decide) (by decide +kernel) b3_nodup
  (es2:=esB) (T2:=trB w.params) (n2:=159) (k2:=2355) rfl rfl (by kernel_rfl) (by kernel_rfl)
 exact GE.mono (by exact h) (by decide +kernel)
noncomputable def tailB (v:Value):Sem Flow:=do
 assignStores env0 v (← swappedStores tgtB (.Dict keysB valsB posB) env0) ((assignEach tgtB env0).map (·.2))
noncomputable def nextB (f:Flow):Sem Flow:=match f with
 | .next=>execs [] env0
 | f=>pure f
theorem b3_exec:exec (stN 10) env0=(standAt stpB >>= fun zz=>((standAt posB >>= fun zz=>dictDisplay ((evalEachOpt keysB env0).zip ((evalEach valsB env0).map fun v=>do let x ← v; standAt posB; pure x))) >>= tailB)):=by kernel_rfl
theorem b3_execs:execs (part 10 1) env0=(exec (stN 10) env0 >>= nextB):=by kernel_rfl
theorem b3_tail (w:World) (q:Pos):go (cQ pw w 11 (some (.ref 6))) pw w 11 (some (.ref 6)) code0 below0 (tailB (.ref 121)) q (trC w.params) 160 2367 0=some (.ok .next,⟨87,0,87,13⟩,tr8 w.params,160,2368,7):=by kernel_rfl
theorem g7 (w:World):∀ c,∃ e,e ≤ 15900 ∧ go (cQ pw w 11 (some (.ref 6))) pw w 11 (some (.ref 6)) code0 below0 (execs (part 10 1) env0) ⟨85,0,86,30⟩ (tr7 w.params) 121 417 c=some (.ok .next,⟨87,0,87,13⟩,tr8 w.params,160,2368,c + e):=fun c=>by
 have h:=go_stmt (p:=pw) (w:=w) (n₀:=11) (ann:=some (.ref 6)) (code:=code0) (below:=below0) (p1:=stpB) (p2:=posB) (q0:=⟨85,0,86,30⟩) (nx:=nextB) (callN_shift _) (b3_disp w) (b3_tail w) (by rfl) c
 rw [← b3_items,← b3_exec,← b3_execs] at h
 obtain ⟨e,h1,h2⟩:=h
 exact ⟨e,Nat.le_trans h1 (by decide),h2⟩
theorem bind_bind_sem {α β γ:Type} (t:Sem α) (f:α → Sem β) (g:β → Sem γ):((t >>= f) >>= g)=(t >>= fun a=>f a >>= g):=by
 show (t.bind f).bind g=t.bind fun a=>(f a).bind g
 induction t <;> simp only [Sem.bind, *]
noncomputable def GoesTo (w:World) (l:List Stmt) (q:Pos) (T:BT) (n k:Nat) (q':Pos) (T':BT) (n' k' B:Nat):Prop:=
 ∀ c,∃ e,e ≤ B ∧ go (cQ pw w 11 (some (.ref 6))) pw w 11 (some (.ref 6)) code0 below0 (execs l env0) q T n k c=some (.ok .next,q',T',n',k',c + e)
theorem GoesTo.of {w:World} {l:List Stmt} {q:Pos} {T:BT} {n k:Nat} {q':Pos} {T':BT} {n' k' B:Nat} (h:goS w l q T n k=some (.ok .next,q',T',n',k',B)):GoesTo w l q T n k q' T' n' k' B:=fun c=>by
 unfold goS at h
 rw [← execsQ_eq] at h
 exact ⟨B,Nat.le_refl _,go_shift (callN_shift _) _ c h⟩
theorem execs_app (l r:List Stmt) (env:Env):execs (l ++ r) env=(execs l env >>= fun f=>match f with | .next=>execs r env | f=>pure f):=by
 induction l with
 | nil=>rfl
 | cons s l ih=>
  show (exec s env >>= fun f=>match f with | .next=>execs (l ++ r) env | f=>pure f)=((exec s env >>= fun f=>match f with | .next=>execs l env | f=>pure f) >>= fun f=>match f with | .next=>execs r env | f=>pure f)
  rw [show ((exec s env >>= fun f=>match f with | .next=>execs l env | f=>pure f) >>= fun f=>match f with | .next=>execs r env | f=>pure f)=(exec s env >>= fun f=>(match f with | .next=>execs l env | f=>pure f) >>= fun f=>match f with | .next=>execs r env | f=>pure f) from bind_bind_sem _ _ _]
  congr 1
  funext f
  cases f <;> first | exact ih | rfl
theorem GoesTo.mono {w:World} {l:List Stmt} {q:Pos} {T:BT} {n k:Nat} {q':Pos} {T':BT} {n' k' B B':Nat} (h:GoesTo w l q T n k q' T' n' k' B) (b:B ≤ B'):GoesTo w l q T n k q' T' n' k' B':=fun c=>let ⟨e,h1,h2⟩:=h c; ⟨e,Nat.le_trans h1 b,h2⟩
theorem GoesTo.app {w:World} {l r:List Stmt} {q q1 q2:Pos} {T T1 T2:BT} {n k n1 k1 n2 k2 B1 B2:Nat} (h:GoesTo w l q T n k q1 T1 n1 k1 B1) (g:GoesTo w r q1 T1 n1 k1 q2 T2 n2 k2 B2):GoesTo w (l ++ r) q T n k q2 T2 n2 k2 (B1 + B2):=fun c=>by
 obtain ⟨e1,h1,h2⟩:=h c
 obtain ⟨e2,g1,g2⟩:=g (c + e1)
 refine ⟨e1 + e2,by exact Nat.add_le_add h1 g1,?_⟩
 rw [execs_app,go_bind',h2]
 show go _ _ _ _ _ _ _ (execs r env0) _ _ _ _ _=_
 rw [g2,Nat.add_assoc]
end
noncomputable section
theorem body_split:behindTheImports pw=part 0 2 ++ (part 2 1 ++ (part 3 1 ++ (part 4 1 ++ (part 5 3 ++ (part 8 1 ++ (part 9 1 ++ (part 10 1 ++ (part 11 12 ++ (part 23 14 ++ (part 37 14 ++ (part 51 13 ++ (part 64 1 ++ (part 65 5 ++ (part 70 4 ++ (part 74 4 ++ (part 78 4 ++ (part 82 4))))))))))))))))):=by kernel_rfl
theorem body_goes (w:World):GoesTo w (behindTheImports pw) ⟨0,0,0,0⟩ (tr0 w.params) 15 187 ⟨252,0,271,85⟩ (tr18 w.params) 286 2714 19714:=by
 rw [body_split]
 exact GoesTo.mono ((GoesTo.of (g0 w)).app ((GoesTo.of (g1 w)).app ((GoesTo.of (g2 w)).app ((GoesTo.of (g3 w)).app ((GoesTo.of (g4 w)).app ((GoesTo.of (g5 w)).app ((GoesTo.of (g6 w)).app ((show GoesTo w _ _ _ _ _ _ _ _ _ _ from g7 w).app ((GoesTo.of (g8 w)).app ((GoesTo.of (g9 w)).app ((GoesTo.of (g10 w)).app ((GoesTo.of (g11 w)).app ((GoesTo.of (g12 w)).app ((GoesTo.of (g13 w)).app ((GoesTo.of (g14 w)).app ((GoesTo.of (g15 w)).app ((GoesTo.of (g16 w)).app (GoesTo.of (g17 w))))))))))))))))))) (by decide)
noncomputable def annR:Option Value:=some (.ref 6)
noncomputable abbrev c91 (w:World):CallT:=callN denQ pw w 11 (some (.ref 6)) 91
theorem start_goes (w:World):go (cQ pw w 11 (some (.ref 6))) pw w 11 (some (.ref 6)) code0 below0 (blockStart (behindTheImports pw) env0) ⟨0,0,0,0⟩ (tr0 w.params) 15 187 0=some (.ok (),⟨0,0,0,0⟩,tr0 w.params,15,187,0):=by kernel_rfl
theorem den_body:denQ code0=(blockStart (behindTheImports pw) env0 >>= fun zz=>((execs (behindTheImports pw) env0).onRaise (PySem.leaving env0)) >>= fun f=>(pure (.done f):Sem Fin)):=by
 rw [← denQ_eq]
 rfl
theorem body_call (w:World):∀ c,∃ e,e ≤ 19714 + 1 ∧ c91 w code0 below0 ⟨0,0,0,0⟩ (tr0 w.params) 15 187 c=some (.ok .next,tr18 w.params,286,2714,c + e):=fun c=>by
 obtain ⟨e,h1,h2⟩:=body_goes w c
 refine ⟨e + 1,by exact Nat.lt_succ_of_le h1,?_⟩
 have key:go (cQ pw w 11 (some (.ref 6))) pw w 11 (some (.ref 6)) code0 below0 (denQ code0) ⟨0,0,0,0⟩ (tr0 w.params) 15 187 c=some (.ok (.done .next),⟨252,0,271,85⟩,tr18 w.params,286,2714,c + e):=by
  rw [den_body,go_bind',(by simpa using go_shift (callN_shift _) _ c (start_goes w):go (cQ pw w 11 (some (.ref 6))) pw w 11 (some (.ref 6)) code0 below0 (blockStart (behindTheImports pw) env0) ⟨0,0,0,0⟩ (tr0 w.params) 15 187 c=some (.ok (),⟨0,0,0,0⟩,tr0 w.params,15,187,c))]
  show go (cQ pw w 11 (some (.ref 6))) pw w 11 (some (.ref 6)) code0 below0 (((execs (behindTheImports pw) env0).onRaise (PySem.leaving env0)) >>= fun f=>(pure (.done f):Sem Fin)) ⟨0,0,0,0⟩ (tr0 w.params) 15 187 c=_
  rw [go_bind',go_onRaise_ok _ h2]
  rfl
 exact callN_done key
noncomputable def preTree:Sem (Value × Addr):=do
 let code ← moduleCode pw.main
 let frame ← newBodyFrame code mainNs mainNs
 pure (code,frame)
noncomputable def topTree:Sem Fin:=do
 let code ← moduleCode pw.main
 let frame ← newBodyFrame code mainNs mainNs
 let _ ← run (.body (behindTheImports pw) { scope:=pw.main.scope,locals:=mainNs,globals:=mainNs,cells:=[],code,frame:=some frame })
 ret .none
theorem topTree_eq:topTree=(preTree >>= fun x=>run (.body (behindTheImports pw) { scope:=pw.main.scope,locals:=mainNs,globals:=mainNs,cells:=[],code:=x.1,frame:=some x.2 }) >>= fun zz=>ret .none):=by
 unfold topTree preTree
 rw [bind_bind_sem]
 congr 1
 funext code
 rw [bind_bind_sem]
 rfl
noncomputable def trBoot (P:Params):BT:=(.node (PySem.W.boot_o_0 P) (.node (PySem.W.boot_o_1 P) (.node (PySem.W.boot_o_3 P) (.node (PySem.W.boot_o_7 P) .nil .nil) .nil) (.node (PySem.W.boot_o_5 P) (.node (PySem.W.boot_o_9 P) .nil .nil) .nil)) (.node (PySem.W.boot_o_2 P) (.node (PySem.W.boot_o_4 P) (.node (PySem.W.boot_o_8 P) .nil .nil) .nil) (.node (PySem.W.boot_o_6 P) (.node (PySem.W.boot_o_10 P) .nil .nil) .nil)))
theorem pre_goes (w:World):go (c91 w) pw w 11 (some (.ref 6)) (.builtin "claim.caller" {}) [] preTree default (trBoot w.params) 11 181 0=some (.ok (.ref 13,14),⟨0,0,0,0⟩,tr0 w.params,15,187,11):=by kernel_rfl
theorem top_goes (w:World):∃ e,e ≤ 19714 + 20 ∧ ∃ q',go (c91 w) pw w 11 (some (.ref 6)) (.builtin "claim.caller" {}) [] topTree default (trBoot w.params) 11 181 0=some (.ok (.done (.ret .none)),q',tr18 w.params,286,2714,e):=by
 obtain ⟨e,h1,h2⟩:=body_call w 12
 refine ⟨12 + e,by omega,⟨0,0,0,0⟩,?_⟩
 rw [topTree_eq,go_bind',pre_goes]
 show go (c91 w) pw w 11 (some (.ref 6)) (.builtin "claim.caller" {}) [] (run code0 >>= fun zz=>ret .none) ⟨0,0,0,0⟩ (tr0 w.params) 15 187 11=_
 rw [go_bind',go_run h2]
 rfl
end
noncomputable section
theorem boot_abs (P:Params):absHeap (trBoot P) 11 {}=PySem.W.boot_heap P:=by kernel_rfl
theorem fin_abs (P:Params):absHeap (tr18 P) 286 {}=hpF P:=by kernel_rfl
theorem toks_boot:PySem.W.boot_toks=181:=by kernel_rfl
theorem top_run (w:World) (os:OsState):topRun treeTable pw w 11 (some (.ref 6)) 40000 ⟨PySem.W.boot_heap w.params,Array.mk [],PySem.W.boot_drawn,PySem.W.boot_toks,os⟩ (topStub pw)=some ⟨hpF w.params,Array.mk [],PySem.W.boot_drawn,2714,os⟩:=by
 obtain ⟨e,h1,q',h2⟩:=top_goes w
 have hc:CallOk pw w 11 (some (.ref 6)) PySem.W.boot_drawn os (c91 w):=by
  have:=callN_ok (p:=pw) (w:=w) (n₀:=11) (ann:=some (.ref 6)) (d:=PySem.W.boot_drawn) (os:=os) 91
  rw [denQ_eq] at this
  exact this
 obtain ⟨e',he,hr⟩:=go_sound hc topTree _ _ _ _ _ _ h2
 have he:e=0 + e':=he
 have h3:=hr .pure .raise id id [] rfl ⟨rfl,rfl⟩ 1 (St (tr18 w.params) 286 2714 PySem.W.boot_drawn os) rfl
 rw [wrap_id] at h3
 have h4:=topRun_mono (40000 - (e' + 1)) _ _ _ _ h3
 rw [Nat.add_sub_cancel' (by clear h2 h3 h4 hr hc; omega)] at h4
 have e1:St (trBoot w.params) 11 181 PySem.W.boot_drawn os=⟨PySem.W.boot_heap w.params,Array.mk [],PySem.W.boot_drawn,PySem.W.boot_toks,os⟩:=by
  unfold St; rw [boot_abs,toks_boot]
 have e2:St (tr18 w.params) 286 2714 PySem.W.boot_drawn os=⟨hpF w.params,Array.mk [],PySem.W.boot_drawn,2714,os⟩:=by
  unfold St; rw [fin_abs]
 rw [e1,e2] at h4
 exact h4
noncomputable def qv:Program:={ pw with main:={ pw.main with body:=part 0 2 ++ part 3 1 ++ part 5 3 ++ part 9 1 ++ part 11 53 ++ part 65 21 } }
noncomputable def looseV:List PySem.Str:=[PySem.Str.ofString "Whitespace",PySem.Str.ofString "COMPILER_FLAG_NAMES",PySem.Str.ofString "b1_set",PySem.Str.ofString "b3_exceptions",PySem.Str.ofString "EXACT_TOKEN_TYPES"]
noncomputable abbrev XtV:Shared → Bool:=fun s=>xlAt qv [] s && recOk [] s
noncomputable def sF (P:Params) (os:OsState):Shared:=⟨hpF P,Array.mk [],PySem.W.boot_drawn,2714,os⟩
theorem mods_none:importedModules pw.main.body=[]:=by kernel_rfl
theorem l0 (w:World):(staticsOk [] (PySem.W.boot_heap w.params) (hpF w.params) && namesBound pw (hpF w.params) && laidKept (PySem.W.boot_heap w.params) (hpF w.params))=true:=by kernel_rfl
theorem l1 (w:World) (os:OsState):seen ((recsOf qv).map (·.name)) (ownsOf qv) [] { sF w.params os with gens:=#[] }=expectedOf qv:=by kernel_rfl
theorem l2 (w:World) (os:OsState):(sF w.params os).heap.bltView=bltViewBooted:=by kernel_rfl
theorem l3 (w:World) (os:OsState):((sF w.params os).heap.keysOk (looseW qv looseV) ((recsOf qv).map (·.name)) ((litsOf qv).map (·.1)) ((clssOf qv (looseW qv looseV)).map (·.name)) && (sF w.params os).heap.accountedOkI [] && (sF w.params os).heap.isNs mainGlobals && (sF w.params os).heap.isNs builtinsNs && tablesOk qv (sF w.params os).heap && XtV (sF w.params os) && (sF w.params os).gens.size == 0)=true:=by kernel_rfl
theorem l4 (w:World) (os:OsState):tabsOk qv (sF w.params os)=true:=by kernel_rfl
theorem l5 (w:World) (os:OsState):pinSeenD qv (drecsOf qv) (sF w.params os)=pinGoodD (drecsOf qv):=by kernel_rfl
theorem l6 (w:World) (os:OsState):plainSeenE qv (looseW qv looseV) (sF w.params os)=plainGoodE qv (looseW qv looseV):=by kernel_rfl
theorem l7 (w:World) (os:OsState):plainSeenD qv looseV (sF w.params os)=plainGoodD qv looseV:=by kernel_rfl
theorem l8 (w:World) (os:OsState):wideSeen qv (sF w.params os)=wideGood qv:=by kernel_rfl
theorem l9 (w:World) (os:OsState):clsSeenW qv looseV (sF w.params os)=clsGoodW qv looseV:=by kernel_rfl
end
noncomputable section
theorem size_ok (w:World):((PySem.W.boot_heap w.params).isNs mainGlobals && (Array.mk []:Array GenState).size == 0,(PySem.W.boot_heap w.params).objs.size,(PySem.W.boot_heap w.params).nsMap mainGlobals "__annotations__")=(true,11,some (Value.ref 6)):=by kernel_rfl
theorem looks_ok (w:World):(fun os=>((staticsOk (importedModules pw.main.body) (PySem.W.boot_heap w.params) (hpF w.params) && namesBound pw (hpF w.params) && gensDone ⟨hpF w.params,Array.mk [],PySem.W.boot_drawn,2714,os⟩ && laidKept (PySem.W.boot_heap w.params) (hpF w.params)),
    openSeen qv looseV (importedModules pw.main.body) XtV true ⟨hpF w.params,Array.mk [],PySem.W.boot_drawn,2714,os⟩,Shared.heap ⟨hpF w.params,Array.mk [],PySem.W.boot_drawn,2714,os⟩))=fun zz=>(true,openGood qv looseV,hpF w.params):=by
 funext os
 rw [mods_none]
 refine looks_pair ?_ (looks_pair ?_ rfl)
 ·have h:=l0 w
  simp only [Bool.and_eq_true] at h ⊢
  exact ⟨⟨⟨h.1.1,h.1.2⟩,rfl⟩,h.2⟩
 ·exact looks_pair (l1 w os) (looks_pair (l2 w os) (looks_pair (l3 w os) (looks_pair (l4 w os) (looks_pair (l5 w os) (looks_pair (l6 w os) (looks_pair (l7 w os) (looks_pair (l8 w os) (l9 w os))))))))
theorem left:LeftO pw qv looseV XtV (fun s=>s.heap) (fun w=>hpF w.params) 40000:=
 LeftO.of_pieces (H₀:=PySem.W.boot_heap) (H₁:=hpF) (gs₀:=Array.mk []) (gs₁:=Array.mk []) (d₀:=PySem.W.boot_drawn) (d₁:=PySem.W.boot_drawn) (k₀:=PySem.W.boot_toks) (k₁:=2714) (m₀:=11) (ann:=some (.ref 6)) (M:=40000)
  (boot_open (by kernel_rfl) (by decide) (fun s=>by kernel_rfl)) size_ok top_run (by decide) looks_ok
end
noncomputable section
noncomputable def lawD:DefRec:=⟨PySem.Str.ofString "law",fArgs (stN 85),fBody (stN 85),fScope (stN 85),⟨252,0,271,85⟩⟩
theorem lawDef:defOf qv (PySem.Str.ofString "law")=some (lawD,[]):=by kernel_rfl
theorem lawThe:pw.theDef (PySem.Str.ofString "law")=some (lawD.params,lawD.body,lawD.scope):=by kernel_rfl
theorem lawKw:kwWritten? lawD.params.kwonlyargs lawD.params.kw_defaults=some []:=by kernel_rfl
theorem okV:(chainsOk qv && opensWell pw && (frees PySem.Challenge.rw_sr0089_02.row.toRowW && PySem.Challenge.rw_sr0089_02.row.within.isEmpty))=true:=by kernel_rfl
theorem bareV:pw.bare:=⟨rfl,rfl,rfl,rfl,rfl,by decide +kernel⟩
noncomputable abbrev YPv (w:World) (h:Heap):Prop:=∀ b o,(hpF w.params).get? b=some o → h.get? b=some o
theorem said:OpenLaw.wellSaid PySem.Challenge.rw_sr0089_02=true:=by kernel_rfl
theorem holds_of (walk:WalkO qv looseV (XL qv []) YPv PySem.Challenge.rw_sr0089_02.row.toRowW lawD [] fun f vs=>PySem.call f vs):PySem.Challenge.rw_sr0089_02.Holds:=by
 refine holds_law said fun said'=>?_
 refine PySem.W.holds_open (r:=PySem.Challenge.rw_sr0089_02.row) (q:=qv) (loose:=looseV) (Xt:=XtV) (XP:=XL qv []) (Yf:=fun s=>s.heap) (Ya:=fun w=>hpF w.params) (YP:=YPv) (N:=40000) left (fun w s e b o h=>by rw [e]; exact h) (fun w h h' y k b o e=>k b o (y b o e)) (fun s e=>xl_of s (Bool.and_eq_true_iff.mp e).1) XL.keeps lawDef lawThe lawKw (fun s e=>recFacts_of (Bool.and_eq_true_iff.mp e).2) (by rfl) (by assumption) okV bareV ?hw walk
 w_witness2
end
end Mine.G
namespace Mine.V
open PySem PySem.W PyProof.Rows
set_option genSizeOfSpec false
inductive PV where
 | none
 | bool (b:Bool)
 | int (i:Int)
 | str (s:List Nat)
 | bytes (b:List Nat)
 | list (xs:List PV)
 | tuple (xs:List PV)
 | inst (fs:List (List Nat × PV))
inductive Slot where
 | fz (d:PV)
 | own (xs:List PV)
 | iter (t:Option Nat) (xs:List PV)
 | self (fs:List (List Nat × PV))
inductive EV where
 | v (d:PV)
 | h (xs:List PV)
noncomputable abbrev Nm:=List Nat
noncomputable abbrev Sg:=List (Nm × Slot)
noncomputable def nmEq:List Nat → List Nat → Bool
 | [],[]=>true
 | a :: l,b :: m=>(a == b) && nmEq l m
 | _,_=>false
noncomputable def lookN {α:Type} (x:Nm):List (Nm × α) → Option α
 | []=>none
 | p :: r=>bif nmEq p.1 x then some p.2 else lookN x r
noncomputable def putN {α:Type} (x:Nm) (v:α):List (Nm × α) → List (Nm × α)
 | []=>[(x,v)]
 | p :: r=>bif nmEq p.1 x then (p.1,v) :: r else p :: putN x v r
noncomputable def memN (x:Nm):List Nm → Bool
 | []=>false
 | y :: r=>nmEq y x || memN x r
noncomputable def n_len:List Nat:=[108,101,110]
noncomputable def n_range:List Nat:=[114,97,110,103,101]
noncomputable def n_max:List Nat:=[109,97,120]
noncomputable def n_sum:List Nat:=[115,117,109]
noncomputable def n_zip:List Nat:=[122,105,112]
noncomputable def n_sorted:List Nat:=[115,111,114,116,101,100]
noncomputable def n_ord:List Nat:=[111,114,100]
noncomputable def n_chr:List Nat:=[99,104,114]
noncomputable def n_repr:List Nat:=[114,101,112,114]
noncomputable def n_hex:List Nat:=[104,101,120]
noncomputable def n_list:List Nat:=[108,105,115,116]
noncomputable def n_tuple:List Nat:=[116,117,112,108,101]
noncomputable def n_bytes:List Nat:=[98,121,116,101,115]
noncomputable def n_iter:List Nat:=[105,116,101,114]
noncomputable def n_next:List Nat:=[110,101,120,116]
noncomputable def n_append:List Nat:=[97,112,112,101,110,100]
noncomputable def n_index:List Nat:=[105,110,100,101,120]
noncomputable def n_join:List Nat:=[106,111,105,110]
noncomputable def n_get:List Nat:=[103,101,116]
noncomputable def n_lower:List Nat:=[108,111,119,101,114]
noncomputable def n_split:List Nat:=[115,112,108,105,116]
noncomputable def n_Whitespace:List Nat:=[87,104,105,116,101,115,112,97,99,101]
noncomputable def n_S:List Nat:=[83]
noncomputable def n_T:List Nat:=[84]
noncomputable def n_b3_exceptions:List Nat:=[98,51,95,101,120,99,101,112,116,105,111,110,115]
noncomputable def n_b1_set:List Nat:=[98,49,95,115,101,116]
noncomputable def n_EXACT_TOKEN_TYPES:List Nat:=[69,88,65,67,84,95,84,79,75,69,78,95,84,89,80,69,83]
noncomputable def n_COMPILER_FLAG_NAMES:List Nat:=[67,79,77,80,73,76,69,82,95,70,76,65,71,95,78,65,77,69,83]
noncomputable def asI (d:PV):Option Int:=PV.casesOn (motive_1:=fun zz=>Option Int) d none (fun zz=>none) some (fun zz=>none) (fun zz=>none) (fun zz=>none) (fun zz=>none) (fun zz=>none)
noncomputable def asB (d:PV):Option Bool:=PV.casesOn (motive_1:=fun zz=>Option Bool) d none some (fun zz=>none) (fun zz=>none) (fun zz=>none) (fun zz=>none) (fun zz=>none) (fun zz=>none)
noncomputable def asS (d:PV):Option (List Nat):=PV.casesOn (motive_1:=fun zz=>Option (List Nat)) d none (fun zz=>none) (fun zz=>none) some (fun zz=>none) (fun zz=>none) (fun zz=>none) (fun zz=>none)
noncomputable def asL (d:PV):Option (List PV):=PV.casesOn (motive_1:=fun zz=>Option (List PV)) d none (fun zz=>none) (fun zz=>none) (fun zz=>none) (fun zz=>none) some (fun zz=>none) (fun zz=>none)
noncomputable def asLT (d:PV):Option (List PV):=PV.casesOn (motive_1:=fun zz=>Option (List PV)) d none (fun zz=>none) (fun zz=>none) (fun zz=>none) (fun zz=>none) some some (fun zz=>none)
noncomputable def asF (d:PV):Option (List (List Nat × PV)):=PV.casesOn (motive_1:=fun zz=>Option (List (List Nat × PV))) d none (fun zz=>none) (fun zz=>none) (fun zz=>none) (fun zz=>none) (fun zz=>none) (fun zz=>none) some
noncomputable def isN (d:PV):Bool:=PV.casesOn (motive_1:=fun zz=>Bool) d true (fun zz=>false) (fun zz=>false) (fun zz=>false) (fun zz=>false) (fun zz=>false) (fun zz=>false) (fun zz=>false)
noncomputable def one {α:Type} (l:List α):Option α:=List.casesOn (motive:=fun zz=>Option α) l none fun a r=>List.casesOn (motive:=fun zz=>Option α) r (some a) fun zz zz=>none
noncomputable def two {α:Type} (l:List α):Option (α × α):=List.casesOn (motive:=fun zz=>Option (α × α)) l none fun a r=>(one r).map fun b=>(a,b)
noncomputable def nilB {α:Type} (l:List α):Bool:=List.casesOn (motive:=fun zz=>Bool) l true fun zz zz=>false
noncomputable def eqI (a:Int) (d:PV):Bool:=PV.casesOn (motive_1:=fun zz=>Bool) d false (fun b=>a == (if b then 1 else 0)) (fun b=>a == b) (fun zz=>false) (fun zz=>false) (fun zz=>false) (fun zz=>false) (fun zz=>false)
noncomputable def eqBo (a:Bool) (d:PV):Bool:=PV.casesOn (motive_1:=fun zz=>Bool) d false (fun b=>a == b) (fun b=>(if a then 1 else 0) == b) (fun zz=>false) (fun zz=>false) (fun zz=>false) (fun zz=>false) (fun zz=>false)
noncomputable def eqSt (a:List Nat) (d:PV):Bool:=PV.casesOn (motive_1:=fun zz=>Bool) d false (fun zz=>false) (fun zz=>false) (fun b=>nmEq a b) (fun zz=>false) (fun zz=>false) (fun zz=>false) (fun zz=>false)
noncomputable def onL (f:List PV → Bool) (d:PV):Bool:=PV.casesOn (motive_1:=fun zz=>Bool) d false (fun zz=>false) (fun zz=>false) (fun zz=>false) (fun zz=>false) f (fun zz=>false) (fun zz=>false)
noncomputable def onT (f:List PV → Bool) (d:PV):Bool:=PV.casesOn (motive_1:=fun zz=>Bool) d false (fun zz=>false) (fun zz=>false) (fun zz=>false) (fun zz=>false) (fun zz=>false) f (fun zz=>false)
noncomputable def onC (f:PV → Bool) (g:List PV → Bool) (l:List PV):Bool:=List.casesOn (motive:=fun zz=>Bool) l false fun a r=>f a && g r
mutual
noncomputable def eqD:PV → PV → Bool
 | .none=>isN
 | .bool a=>eqBo a
 | .int a=>eqI a
 | .str a=>eqSt a
 | .bytes _=>fun zz=>false
 | .list a=>onL (eqDs a)
 | .tuple a=>onT (eqDs a)
 | .inst _=>fun zz=>false
noncomputable def eqDs:List PV → List PV → Bool
 | []=>nilB
 | a :: l=>onC (eqD a) (eqDs l)
end
noncomputable def ok0 (f:List PV → Bool) (d:PV):Bool:=PV.casesOn (motive_1:=fun zz=>Bool) d true (fun zz=>true) (fun zz=>true) (fun s=>s.all fun c=>decide (c < 1114112)) (fun zz=>false) f f (fun zz=>false)
noncomputable def okN:Nat → PV → Bool
 | 0=>ok0 fun zz=>false
 | n + 1=>ok0 fun xs=>xs.all (okN n)
noncomputable def pvEq (a b:PV):Option Bool:=bif okN 8 a && okN 8 b then some (eqD a b) else none
noncomputable def truthP (d:PV):Option Bool:=PV.casesOn (motive_1:=fun zz=>Option Bool) d (some false) some (fun i=>some (i != 0)) (fun zz=>none) (fun zz=>none) (fun zz=>none) (fun zz=>none) (fun zz=>none)
noncomputable def EV.pv (d:EV):PV:=EV.casesOn (motive:=fun zz=>PV) d id .list
noncomputable def rep {α:Type}:Nat → List α → List α
 | 0,_=>[]
 | n + 1,l=>l ++ rep n l
noncomputable def smallN (n:Nat):Bool:=decide (n ≤ 16777216)
noncomputable def intBin (op:Operator) (x y:Int):Option Int:=
 match op with
 | .Add=>some (x + y)
 | .Sub=>some (x - y)
 | .Mult=>bif decide (x.natAbs.log2 < 1000000) && decide (y.natAbs.log2 < 1000000) then some (x * y) else none
 | .FloorDiv=>bif !(y == 0) && decide (y.natAbs.log2 < 9000) then some (x.fdiv y) else none
 | .Mod=>bif y == 0 then none else some (x.fmod y)
 | .LShift=>bif decide (0 ≤ y) && decide (y ≤ 1000000) && decide (x.natAbs < 2 ^ 64) then some (x * 2 ^ y.toNat) else none
 | .RShift=>bif decide (0 ≤ y) then some (x.fdiv (2 ^ y.toNat)) else none
 | .BitAnd=>some (Builtin.bitAnd x y)
 | .BitOr=>some (Builtin.bitOr x y)
 | .BitXor=>some (Builtin.bitXor x y)
 | _=>none
noncomputable def repN {α:Type} (x:List α) (n:Int):Option (List α):=bif decide (n < 65536) && smallN (x.length * n.toNat) && decide (-65536 < n) then some (rep n.toNat x) else none
noncomputable def catN {α:Type} (x y:List α):Option (List α):=bif smallN (x.length + y.length) then some (x ++ y) else none
noncomputable def seqBin {α:Type} (as:PV → Option (List α)) (mk:List α → PV) (op:Operator) (x:List α) (b:PV):Option PV:=
 match op with
 | .Add=>(as b).bind fun y=>(catN x y).map mk
 | .Mult=>(asI b).bind fun n=>(repN x n).map mk
 | _=>none
noncomputable def binP (op:Operator) (a b:PV):Option PV:=PV.casesOn (motive_1:=fun zz=>Option PV) a none (fun zz=>none) (fun x=>(asI b).bind fun y=>(intBin op x y).map .int) (fun x=>seqBin asS .str op x b) (fun zz=>none) (fun x=>seqBin asL .list op x b) (fun zz=>none) (fun zz=>none)
noncomputable def atI {α:Type} (xs:List α) (i:Int):Option α:=
 bif !(decide (i.natAbs ≤ 16777216)) then none else bif decide (0 ≤ i) then xs[i.toNat]? else bif decide (0 ≤ i + xs.length) then xs[(i + xs.length).toNat]? else none
noncomputable def setI {α:Type} (xs:List α) (i:Int) (v:α):Option (List α):=
 bif !(decide (i.natAbs ≤ 16777216)) then none else bif decide (0 ≤ i) && decide (i < xs.length) then some (xs.set i.toNat v)
 else bif decide (i < 0) && decide (0 ≤ i + xs.length) then some (xs.set (i + xs.length).toNat v) else none
noncomputable def constP (c:Const):Option PV:=Const.casesOn (motive:=fun zz=>Option PV) c (some .none) (fun b=>some (.bool b)) (fun i=>some (.int i)) (fun zz=>none) (fun zz zz=>none) (fun s=>some (.str s.cps.toList)) (fun zz=>none) none
noncomputable def memP (a:PV) (xs:List PV):Option Bool:=
 bif okN 8 (.list xs) && okN 8 a then some (xs.any fun y=>eqD y a) else none
noncomputable def indexP (a:PV):List PV → Nat → Option Nat
 | [],_=>none
 | x :: r,n=>(pvEq x a).bind fun b=>bif b then some n else indexP a r (n + 1)
noncomputable def isP (a b:PV):Option Bool:=PV.casesOn (motive_1:=fun zz=>Option Bool) a (bif isN b then some true else none) (fun x=>(asB b).map fun y=>x == y) (fun zz=>none) (fun zz=>bif isN b then some false else none) (fun zz=>none) (fun zz=>none) (fun zz=>none) (fun zz=>none)
noncomputable def ltP (f:Int → Int → Bool) (a b:PV):Option Bool:=(asI a).bind fun x=>(asI b).map fun y=>f x y
noncomputable def cmpP (op:CmpOp) (a b:PV):Option Bool:=
 match op with
 | .Eq=>pvEq a b
 | .NotEq=>(pvEq a b).map (!·)
 | .Is=>isP a b
 | .IsNot=>bif (asB a).isSome then none else (isP a b).map (!·)
 | .In=>(asL b).bind (memP a)
 | .NotIn=>(asL b).bind fun xs=>(memP a xs).map (!·)
 | .Lt=>ltP (fun x y=>decide (x < y)) a b
 | .LtE=>ltP (fun x y=>decide (x ≤ y)) a b
 | .Gt=>ltP (fun x y=>decide (x > y)) a b
 | .GtE=>ltP (fun x y=>decide (x ≥ y)) a b
noncomputable def rangeGo (a st:Int):Nat → List PV
 | 0=>[]
 | n + 1=>.int a :: rangeGo (a + st) st n
noncomputable def rangeP (a b st:Int):Option (List PV):=
 bif Builtin.Range.small a b st && !(st == 0) && decide (st.natAbs.log2 < 9000) && decide (0 ≤ Builtin.Range.rangeSize a b st) && decide (Builtin.Range.rangeSize a b st ≤ 16777216) then some (rangeGo a st (Builtin.Range.rangeSize a b st).toNat) else none
noncomputable def intsP:List PV → Option (List Int)
 | []=>some []
 | d :: r=>(asI d).bind fun i=>(intsP r).map (i :: ·)
noncomputable def rangeI (l:List Int):Option (List PV):=List.casesOn (motive:=fun zz=>Option (List PV)) l none fun a r=>List.casesOn (motive:=fun zz=>Option (List PV)) r (rangeP 0 a 1) fun b r=>List.casesOn (motive:=fun zz=>Option (List PV)) r (rangeP a b 1) fun c r=>bif nilB r then rangeP a b c else none
noncomputable def rangeA (o:Option (List PV)):Option (List PV):=o.bind fun l=>(intsP l).bind rangeI
noncomputable def itemsP (d:PV):Option (List PV):=PV.casesOn (motive_1:=fun zz=>Option (List PV)) d none (fun zz=>none) (fun zz=>none) (fun s=>some (s.map fun c=>.str [c])) (fun zz=>none) some (fun zz=>none) (fun zz=>none)
noncomputable def asLs:List PV → Option (List (List PV))
 | []=>some []
 | d :: r=>(asL d).bind fun l=>(asLs r).map (l :: ·)
noncomputable def heads:List (List PV) → Option (List PV)
 | []=>some []
 | l :: r=>List.casesOn (motive:=fun zz=>Option (List PV)) l none fun a zz=>(heads r).map (a :: ·)
noncomputable def zipN:Nat → List (List PV) → List PV
 | 0,_=>[]
 | n + 1,ls=>Option.casesOn (motive:=fun zz=>List PV) (heads ls) [] fun hs=>.tuple hs :: zipN n (ls.map List.tail)
noncomputable def zipL (ls:List (List PV)):Option (List PV):=List.casesOn (motive:=fun zz=>Option (List PV)) ls none fun a r=>bif nilB r || decide (7 < r.length) then none else some (zipN (a.length + 1) (a :: r))
noncomputable def zipA (o:Option (List PV)):Option (List PV):=o.bind fun l=>(asLs l).bind zipL
noncomputable def maxI:Int → List PV → Option PV
 | m,[]=>some (.int m)
 | m,d :: r=>(asI d).bind fun x=>maxI (bif decide (m < x) then x else m) r
noncomputable def sumI:Int → List PV → Option PV
 | m,[]=>some (.int m)
 | m,d :: r=>(asI d).bind fun x=>sumI (m + x) r
mutual
noncomputable def toD:PV → PyData
 | .none=>.none
 | .bool b=>.bool b
 | .int i=>.int i
 | .str s=>.str ⟨s.toArray⟩
 | .bytes _=>.dict []
 | .list xs=>.list (toDs xs)
 | .tuple xs=>.tuple (toDs xs)
 | .inst _=>.dict []
noncomputable def toDs:List PV → List PyData
 | []=>[]
 | x :: r=>toD x :: toDs r
end
noncomputable def reprP (d:PV):Option (List Nat):=(asL d).bind fun xs=>bif okN 8 (.list xs) && (toD (.list xs)).showable && !(toD (.list xs)).hasDict && smallN (toD (.list xs)).shown.length then some (toD (.list xs)).shown.cps.toList else none
noncomputable def hexP (i:Int):Option (List Nat):=bif smallN (baseText "0x" 16 i).length then some (baseText "0x" 16 i).cps.toList else none
noncomputable def strsP:List PV → Option (List PySem.Str)
 | []=>some []
 | d :: r=>(asS d).bind fun x=>(strsP r).map (⟨x.toArray⟩ :: ·)
noncomputable def insZ (x:Int):List Int → List Int
 | []=>[x]
 | y :: r=>bif decide (x ≤ y) then x :: y :: r else y :: insZ x r
noncomputable def sortZ:List Int → List Int
 | []=>[]
 | x :: r=>insZ x (sortZ r)
noncomputable def insS (x:PySem.Str):List PySem.Str → List PySem.Str
 | []=>[x]
 | y :: r=>bif Spec.ltCps y.cps.toList x.cps.toList then y :: insS x r else x :: y :: r
noncomputable def sortS:List PySem.Str → List PySem.Str
 | []=>[]
 | x :: r=>insS x (sortS r)
noncomputable def ofStr (x:PySem.Str):PV:=.str x.cps.toList
noncomputable def joinP (sep:List Nat) (xs:List PV):Option (List Nat):=(strsP xs).bind fun ys=>
 bif decide ((ys.map (·.length)).sum + ys.length * sep.length ≤ 16777216) then some (Txt.join ⟨sep.toArray⟩ ys).cps.toList else none
noncomputable def sortP (xs:List PV):Option (List PV):=Option.casesOn (motive:=fun zz=>Option (List PV)) (intsP xs) ((strsP xs).map fun ss=>(sortS ss).map ofStr) fun ns=>some ((sortZ ns).map .int)
noncomputable def bytesP:List PV → Option (List Nat)
 | []=>some []
 | d :: r=>(asI d).bind fun i=>bif decide (0 ≤ i) && decide (i < 256) then (bytesP r).map (i.toNat :: ·) else none
noncomputable def splitP (x:PySem.Str):Option (List PV):=
 bif smallN x.length && smallN (PySem.Builtin.Str.spaceWords x (x.length + 1)).length then some ((Txt.words x).map ofStr) else none
noncomputable def splitAtP (x y:PySem.Str):Option (List PV):=
 bif smallN x.length && !(y.length == 0) && smallN (PySem.Builtin.Str.partsBetween x (PySem.Builtin.Str.occurrences x y 0 x.length (x.length + 1)) y.length).length then some ((Txt.split x y).map ofStr) else none
noncomputable def lowerP (x:PySem.Str):Option PV:=bif decide (x.length ≤ 5592405) then some (ofStr (Txt.lower x)) else none
noncomputable def idxP (d:PV) (xs:List PV):Option Nat:=PV.casesOn (motive_1:=fun zz=>Option Nat) d none (fun zz=>none) (fun zz=>(intsP xs).bind fun zz=>indexP d xs 0) (fun zz=>(strsP xs).bind fun zz=>indexP d xs 0) (fun zz=>none) (fun zz=>none) (fun zz=>none) (fun zz=>none)
noncomputable def lenP (d:PV):Option Nat:=PV.casesOn (motive_1:=fun zz=>Option Nat) d none (fun zz=>none) (fun zz=>none) (fun s=>some s.length) (fun zz=>none) (fun s=>some s.length) (fun s=>some s.length) (fun zz=>none)
noncomputable def max1 (d:PV):Option PV:=(asL d).bind fun l=>List.casesOn (motive:=fun zz=>Option PV) l none fun d r=>(asI d).bind fun x=>maxI x r
noncomputable def max2 (a b:PV):Option PV:=(asI a).bind fun a=>(asI b).map fun b=>.int (bif decide (a < b) then b else a)
noncomputable def maxP (l:List PV):Option PV:=List.casesOn (motive:=fun zz=>Option PV) l none fun a r=>List.casesOn (motive:=fun zz=>Option PV) r (max1 a) fun b r=>bif nilB r then max2 a b else none
noncomputable def bi1 (f:PV → Option PV) (l:List PV):Option PV:=(one l).bind f
noncomputable def builtinP (f:Nm) (args:List PV):Option PV:=
 bif nmEq f n_len then bi1 (fun d=>(lenP d).bind fun n=>bif smallN n then some (.int n) else none) args
 else bif nmEq f n_max then maxP args
 else bif nmEq f n_sum then bi1 (fun d=>(asL d).bind (sumI 0)) args
 else bif nmEq f n_ord then bi1 (fun d=>(asS d).bind fun s=>(one s).map fun (c:Nat)=>PV.int c) args
 else bif nmEq f n_chr then bi1 (fun d=>(asI d).bind fun i=>bif decide (0 ≤ i) && decide (i < 1114112) then some (.str [i.toNat]) else none) args
 else bif nmEq f n_sorted then bi1 (fun d=>(asL d).bind fun xs=>bif decide (xs.length < 64) then (sortP xs).map .list else none) args
 else bif nmEq f n_repr then bi1 (fun d=>(reprP d).map .str) args
 else bif nmEq f n_hex then bi1 (fun d=>(asI d).bind fun i=>(hexP i).map .str) args
 else bif nmEq f n_tuple then bi1 (fun d=>(asL d).bind fun xs=>bif smallN xs.length then some (.tuple xs) else none) args
 else bif nmEq f n_bytes then bi1 (fun d=>(asL d).bind fun xs=>bif smallN xs.length then (bytesP xs).map .bytes else none) args
 else none
noncomputable def strM (m:Nm) (s:List Nat) (args:List PV):Option PV:=List.casesOn (motive:=fun zz=>Option PV) args
 (bif nmEq m n_split then (splitP ⟨s.toArray⟩).map .list else bif nmEq m n_lower then lowerP ⟨s.toArray⟩ else none)
 fun a r=>bif !(nilB r) then none else bif nmEq m n_join then (asL a).bind fun xs=>(joinP s xs).map .str else bif nmEq m n_split then (asS a).bind fun y=>(splitAtP ⟨s.toArray⟩ ⟨y.toArray⟩).map .list else none
noncomputable def listM (m:Nm) (xs:List PV) (args:List PV):Option PV:=(one args).bind fun d=>bif nmEq m n_index && smallN xs.length then (idxP d xs).map fun (n:Nat)=>PV.int (Int.ofNat n) else none
noncomputable def methodP (m:Nm) (o:PV) (args:List PV):Option PV:=PV.casesOn (motive_1:=fun zz=>Option PV) o none (fun zz=>none) (fun zz=>none) (fun s=>strM m s args) (fun zz=>none) (fun xs=>listM m xs args) (fun zz=>none) (fun zz=>none)
noncomputable def sliceP {α:Type} (xs:List α) (lo hi st:Option Int):Option (List α):=
 bif decide (st=some 0) then none else some ((sliceRange (sliceBounds lo hi st xs.length).1 (sliceBounds lo hi st xs.length).2.1 (sliceBounds lo hi st xs.length).2.2).filterMap (xs[·]?))
noncomputable def szB (d:PV):Bool:=PV.casesOn (motive_1:=fun zz=>Bool) d true (fun zz=>true) (fun zz=>true) (fun l=>smallN l.length) (fun l=>smallN l.length) (fun l=>smallN l.length) (fun l=>smallN l.length) (fun zz=>true)
noncomputable def mkV (d:PV):Option EV:=bif szB d then some (.v d) else none
noncomputable def atD (d:PV) (i:Int):Option EV:=PV.casesOn (motive_1:=fun zz=>Option EV) d none (fun zz=>none) (fun zz=>none) (fun xs=>(atI xs i).map fun c=>.v (.str [c])) (fun zz=>none) (fun xs=>(atI xs i).map .v) (fun xs=>(atI xs i).map .v) (fun zz=>none)
noncomputable def atEV (x:EV) (i:Int):Option EV:=atD x.pv i
noncomputable def valO (o:Option EV):Option PV:=o.bind fun x=>EV.casesOn (motive:=fun zz=>Option PV) x some fun zz=>none
noncomputable def eachV:List (Option EV) → Option (List PV)
 | []=>some []
 | o :: r=>(valO o).bind fun d=>(eachV r).map (d :: ·)
noncomputable def eachPV:List (Option EV) → Option (List PV)
 | []=>some []
 | o :: r=>o.bind fun d=>(eachPV r).map (d.pv :: ·)
noncomputable def chainP (a:PV):List CmpOp → List (Option EV) → Option Bool
 | []=>fun zz=>none
 | op :: r=>fun cs=>List.casesOn (motive:=fun zz=>Option Bool) cs none fun c cs=>c.bind fun b=>(cmpP op a b.pv).bind fun t=>bif nilB r then (bif nilB cs then some t else none) else bif t then chainP b.pv r cs else some false
noncomputable def compLoop (f:PV → Option (List PV)):List PV → Option (List PV)
 | []=>some []
 | x :: r=>match f x with
  | none=>none
  | some a=>match compLoop f r with
   | none=>none
   | some b=>some (a ++ b)
set_option genSizeOf false
set_option genInjectivity false
noncomputable def nm (s:PySem.Str):Nm:=s.cps.toList
noncomputable def mkS (x:Nm):PySem.Str:=⟨x.toArray⟩
noncomputable abbrev NP:=Nm × Pos
inductive Tg where
 | nm (x:Nm) (p:Pos)
 | tup (xs:List NP) (k:Nat) (p:Pos)
mutual
inductive E where
 | const (c:Const) (k:Nat) (p:Pos)
 | name (x:Nm) (p:Pos)
 | gname (x:Nm) (p:Pos)
 | bin (l:E) (op:Operator) (r:E) (p:Pos)
 | neg (x:E) (p:Pos)
 | not (x:E) (p:Pos)
 | bool (op:BoolOp) (xs:List E) (p:Pos)
 | ite (t a b:E) (p:Pos)
 | cmp (l:E) (ops:List CmpOp) (cs:List E) (p:Pos)
 | inS (l:E) (x:Nm) (xp p:Pos)
 | list (es:List E) (p:Pos)
 | tup (es:List E) (k:Nat) (p:Pos)
 | comp (elt:E) (g:Gn) (gs:List Gn) (sc:Scope) (p:Pos)
 | attr (o:Nm) (op:Pos) (a:Nm) (p:Pos)
 | cattr (o:Nm) (op:Pos) (a:Nm) (p:Pos)
 | sub (o i:E) (p:Pos)
 | tab (x:Nm) (xp:Pos) (i:E) (p:Pos)
 | slice (o:E) (lo hi st:Option E) (sp p:Pos)
 | callB (f:Nm) (fp:Pos) (es:List E) (p:Pos)
 | callD (f:Nm) (fp:Pos) (es:List E) (p:Pos)
 | lrange (fp gp:Pos) (es:List E) (rp p:Pos)
 | meth (o:E) (m:Nm) (ap:Pos) (es:List E) (p:Pos)
 | get (x:Nm) (xp ap:Pos) (es:List E) (p:Pos)
 | raw (e:Expr)
inductive Gn where
 | mk (t:Tg) (it:It) (ifs:List E)
inductive It where
 | val (e:E)
 | range (fp:Pos) (es:List E) (p:Pos)
 | zip (fp:Pos) (es:List E) (p:Pos)
end
inductive S where
 | ret (e:E) (p:Pos)
 | retL (it:Nm) (fp ip cp lp mp:Pos) (a b:E) (q p:Pos)
 | set (x:Nm) (xp:Pos) (e:E) (p:Pos)
 | iter (x:Nm) (xp:Pos) (y:Nm) (yp fp cp p:Pos)
 | next (x:Nm) (xp:Pos) (it:Nm) (ip fp cp p:Pos)
 | icall (x:Nm) (xp:Pos) (f:Nm) (fp:Pos) (it:Nm) (ip cp p:Pos)
 | many (x y:NP) (xs:List NP) (e:E) (p:Pos)
 | tup (xs:List NP) (k:Nat) (tp:Pos) (e:E) (p:Pos)
 | attr (o:Nm) (op:Pos) (a:Nm) (ap:Pos) (e:E) (p:Pos)
 | item (x:Nm) (xp:Pos) (i:E) (sp:Pos) (e:E) (p:Pos)
 | augN (x:Nm) (xp:Pos) (op:Operator) (e:E) (p:Pos)
 | augI (x:Nm) (xp:Pos) (i:E) (sp:Pos) (op:Operator) (e:E) (p:Pos)
 | app (x:Nm) (xp ap:Pos) (e:E) (cp p:Pos)
 | ife (t:E) (a b:List S) (p:Pos)
 | whl (t:E) (a b:List S) (p:Pos)
 | for (t:Tg) (it:It) (a b:List S) (p:Pos)
 | brk (p:Pos)
 | pass (p:Pos)
 | raw (s:Stmt)
noncomputable def NP.b (q:NP):Expr:=.Name (mkS q.1) q.2
noncomputable def Tg.b:Tg → Expr
 | .nm x p=>.Name (mkS x) p
 | .tup xs k p=>.Tuple (xs.map NP.b) k p
mutual
noncomputable def E.b:E → Expr
 | .const c k p=>.Constant c k p
 | .name x p=>.Name (mkS x) p
 | .gname x p=>.Name (mkS x) p
 | .bin l op r p=>.BinOp l.b op r.b p
 | .neg x p=>.UnaryOp .USub x.b p
 | .not x p=>.UnaryOp .Not x.b p
 | .bool op xs p=>.BoolOp op (bs xs) p
 | .ite t a b p=>.IfExp t.b a.b b.b p
 | .cmp l ops cs p=>.Compare l.b ops (bs cs) p
 | .inS l x xp p=>.Compare l.b [.In] [.Name (mkS x) xp] p
 | .list es p=>.List (bs es) p
 | .tup es k p=>.Tuple (bs es) k p
 | .comp elt g gs sc p=>.ListComp elt.b (g.b :: gbs gs) sc p
 | .attr o op a p=>.Attribute (.Name (mkS o) op) (mkS a) p
 | .cattr o op a p=>.Attribute (.Name (mkS o) op) (mkS a) p
 | .sub o i p=>.Subscript o.b i.b p
 | .tab x xp i p=>.Subscript (.Name (mkS x) xp) i.b p
 | .slice o lo hi st sp p=>.Subscript o.b (.Slice (ob lo) (ob hi) (ob st) sp) p
 | .callB f fp es p=>.Call (.Name (mkS f) fp) (bs es) [] p
 | .callD f fp es p=>.Call (.Name (mkS f) fp) (bs es) [] p
 | .lrange fp gp es rp p=>.Call (.Name (mkS n_list) fp) [.Call (.Name (mkS n_range) gp) (bs es) [] rp] [] p
 | .meth o m ap es p=>.Call (.Attribute o.b (mkS m) ap) (bs es) [] p
 | .get x xp ap es p=>.Call (.Attribute (.Name (mkS x) xp) (mkS n_get) ap) (bs es) [] p
 | .raw e=>e
noncomputable def bs:List E → List Expr
 | []=>[]
 | e :: r=>e.b :: bs r
noncomputable def ob:Option E → Option Expr
 | none=>none
 | some e=>some e.b
noncomputable def Gn.b:Gn → Comprehension
 | .mk t it ifs=>⟨t.b,it.b,bs ifs,0⟩
noncomputable def gbs:List Gn → List Comprehension
 | []=>[]
 | g :: r=>g.b :: gbs r
noncomputable def It.b:It → Expr
 | .val e=>e.b
 | .range fp es p=>.Call (.Name (mkS n_range) fp) (bs es) [] p
 | .zip fp es p=>.Call (.Name (mkS n_zip) fp) (bs es) [] p
end
mutual
noncomputable def S.b:S → Stmt
 | .ret e p=>.Return (some e.b) p
 | .retL it fp ip cp lp mp a b q p=>.Return (some (.IfExp (.Compare (.Call (.Name (mkS n_list) fp) [.Name (mkS it) ip] [] cp) [.Eq] [.List [] lp] mp) a.b b.b q)) p
 | .set x xp e p=>.Assign [.Name (mkS x) xp] e.b p
 | .iter x xp y yp fp cp p=>.Assign [.Name (mkS x) xp] (.Call (.Name (mkS n_iter) fp) [.Name (mkS y) yp] [] cp) p
 | .next x xp it ip fp cp p=>.Assign [.Name (mkS x) xp] (.Call (.Name (mkS n_next) fp) [.Name (mkS it) ip] [] cp) p
 | .icall x xp f fp it ip cp p=>.Assign [.Name (mkS x) xp] (.Call (.Name (mkS f) fp) [.Name (mkS it) ip] [] cp) p
 | .many x y xs e p=>.Assign (x.b :: y.b :: xs.map NP.b) e.b p
 | .tup xs k tp e p=>.Assign [.Tuple (xs.map NP.b) k tp] e.b p
 | .attr o op a ap e p=>.Assign [.Attribute (.Name (mkS o) op) (mkS a) ap] e.b p
 | .item x xp i sp e p=>.Assign [.Subscript (.Name (mkS x) xp) i.b sp] e.b p
 | .augN x xp op e p=>.AugAssign (.Name (mkS x) xp) op e.b p
 | .augI x xp i sp op e p=>.AugAssign (.Subscript (.Name (mkS x) xp) i.b sp) op e.b p
 | .app x xp ap e cp p=>.Expr (.Call (.Attribute (.Name (mkS x) xp) (mkS n_append) ap) [e.b] [] cp) p
 | .ife t a b p=>.If t.b (sbs a) (sbs b) p
 | .whl t a b p=>.While t.b (sbs a) (sbs b) p
 | .for t it a b p=>.For t.b it.b (sbs a) (sbs b) p
 | .brk p=>.Break p
 | .pass p=>.Pass p
 | .raw s=>s
noncomputable def sbs:List S → List Stmt
 | []=>[]
 | s :: r=>s.b :: sbs r
end
noncomputable abbrev Ks:=List (PySem.Str × NameKind)
noncomputable def kindN (x:Nm):Ks → Option NameKind
 | []=>none
 | p :: r=>bif nmEq (nm p.1) x then some p.2 else kindN x r
noncomputable def n_debug:List Nat:=[95,95,100,101,98,117,103,95,95]
noncomputable def n_classdict:List Nat:=[95,95,99,108,97,115,115,100,105,99,116,95,95]
noncomputable def isGl (K:Ks) (x:Nm):Bool:=decide (kindN x K=some .globalImplicit) && !(nmEq x n_debug)
noncomputable def isBuiltin (f:Nm):Bool:=memN f [n_len,n_max,n_sum,n_ord,n_chr,n_sorted,n_repr,n_hex,n_tuple,n_bytes]
structure R where
 e:E
 nm:Option NP:=none
 tup:Option Tg:=none
 sl:Option (Option E × Option E × Option E × Pos):=none
 call:Option (NP × List E × Option NP × Pos):=none
 attr:Option (E × Option NP × Nm × Pos):=none
 sub:Option (NP × E × Pos):=none
 app:Option (NP × Pos × E × Pos):=none
 nil:Option Pos:=none
 leq:Option (Pos × NP × Pos × Pos × Pos):=none
 ifx:Option ((Pos × NP × Pos × Pos × Pos) × E × E × Pos):=none
noncomputable def R.raw (e:Expr):R:={ e:=.raw e }
noncomputable def nmsX:List R → Option (List NP)
 | []=>some []
 | r :: l=>r.nm.bind fun q=>(nmsX l).map (q :: ·)
noncomputable def es (l:List R):List E:=l.map R.e
noncomputable def atX (K:Ks) (r:R) (f g:NP → E) (h:E):E:=Option.casesOn (motive:=fun zz=>E) r.nm h fun q=>bif isGl K q.1 then g q else f q
noncomputable def subX (K:Ks) (o i:R) (p:Pos):R:=Option.casesOn (motive:=fun zz=>R) i.sl { e:=atX K o (fun zz=>.sub o.e i.e p) (fun q=>.tab q.1 q.2 i.e p) (.sub o.e i.e p),sub:=o.nm.map fun q=>(q,i.e,p) } fun t=>{ e:=.slice o.e t.1 t.2.1 t.2.2.1 t.2.2.2 p }
noncomputable def rangeOf (r:R):Option (Pos × List E × Pos):=r.call.bind fun q=>bif nmEq q.1.1 n_range then some (q.1.2,q.2.1,q.2.2.2) else none
noncomputable def callX (K:Ks) (f:R) (ts:List R) (p:Pos):R:=Option.casesOn (motive:=fun zz=>R) f.attr
 (Option.casesOn (motive:=fun zz=>R) f.nm (R.raw (.Call f.e.b (bs (es ts)) [] p)) fun q=>
  {e:=Option.casesOn (motive:=fun zz=>E) (bif nmEq q.1 n_list then (one ts).bind rangeOf else none) (bif isBuiltin q.1 then .callB q.1 q.2 (es ts) p else .callD q.1 q.2 (es ts) p) fun g=>.lrange q.2 g.1 g.2.1 g.2.2 p,
   call:=some (q,es ts,(one ts).bind R.nm,p) })
 fun q=>{ e:=Option.casesOn (motive:=fun zz=>E) q.2.1 (.meth q.1 q.2.2.1 q.2.2.2 (es ts) p) fun o=>bif isGl K o.1 then .get o.1 o.2 q.2.2.2 (es ts) p else .meth q.1 q.2.2.1 q.2.2.2 (es ts) p,app:=q.2.1.bind fun o=>(one ts).map fun t=>(o,q.2.2.2,t.e,p) }
noncomputable def cmpX (K:Ks) (l:R) (ops:List CmpOp) (cs:List R) (p:Pos):R:=
 {e:=Option.casesOn (motive:=fun zz=>E) (bif decide (ops=[.In]) then (one cs).bind R.nm else none) (.cmp l.e ops (es cs) p) fun q=>bif isGl K q.1 then .inS l.e q.1 q.2 p else .cmp l.e ops (es cs) p,
  leq:=l.call.bind fun c=>bif nmEq c.1.1 n_list then c.2.2.1.bind fun x=>((one cs).bind R.nil).map fun lp=>(c.1.2,x,c.2.2.2,lp,p) else none }
noncomputable def itX (r:R):It:=Option.casesOn (motive:=fun zz=>It) r.call (.val r.e) fun q=>bif nmEq q.1.1 n_range then .range q.1.2 q.2.1 q.2.2.2 else bif nmEq q.1.1 n_zip then .zip q.1.2 q.2.1 q.2.2.2 else .val r.e
noncomputable def tgX (r:R):Tg:=Option.casesOn (motive:=fun zz=>Tg) r.nm (r.tup.getD (.nm [] default)) fun q=>.nm q.1 q.2
mutual
noncomputable def trE (K:Ks):Expr → R
 | .Constant c k p=>{ e:=.const c k p }
 | .Name x p=>{ e:=bif isGl K (nm x) then .gname (nm x) p else .name (nm x) p,nm:=some (nm x,p) }
 | .BinOp l op r p=>{ e:=.bin (trE K l).e op (trE K r).e p }
 | .UnaryOp op x p=>{ e:=bif decide (op=.Not) then .not (trE K x).e p else .neg (trE K x).e p }
 | .BoolOp op xs p=>{ e:=.bool op (es (trEs K xs)) p }
 | .IfExp t a b p=>{ e:=.ite (trE K t).e (trE K a).e (trE K b).e p,ifx:=(trE K t).leq.map fun q=>(q,(trE K a).e,(trE K b).e,p) }
 | .Compare l ops cs p=>cmpX K (trE K l) ops (trEs K cs) p
 | .List l p=>{ e:=.list (es (trEs K l)) p,nil:=bif nilB l then some p else none }
 | .Tuple l k p=>{ e:=.tup (es (trEs K l)) k p,tup:=(nmsX (trEs K l)).map fun q=>.tup q k p }
 | .ListComp elt gens sc p=>match gens with
  | []=>R.raw (.ListComp elt [] sc p)
  | ⟨t,it,ifs,_⟩ :: more=>{ e:=.comp (trE sc.names elt).e (.mk (tgX (trE K t)) (itX (trE K it)) (es (trEs sc.names ifs))) (trG sc.names more) sc p }
 | .Attribute o a p=>{ e:=atX K (trE K o) (fun q=>.attr q.1 q.2 (nm a) p) (fun q=>.cattr q.1 q.2 (nm a) p) (.raw (.Attribute o a p)),attr:=some ((trE K o).e,(trE K o).nm,nm a,p) }
 | .Subscript o i p=>subX K (trE K o) (trE K i) p
 | .Call f l _ p=>callX K (trE K f) (trEs K l) p
 | .Slice lo hi st p=>{ R.raw (.Slice lo hi st p) with sl:=some (trO K lo,trO K hi,trO K st,p) }
 | e=>R.raw e
noncomputable def trO (K:Ks):Option Expr → Option E
 | none=>none
 | some e=>some (trE K e).e
noncomputable def trEs (K:Ks):List Expr → List R
 | []=>[]
 | e :: r=>trE K e :: trEs K r
noncomputable def trG (K:Ks):List Comprehension → List Gn
 | []=>[]
 | ⟨t,it,ifs,_⟩ :: r=>.mk (tgX (trE K t)) (itX (trE K it)) (es (trEs K ifs)) :: trG K r
end
noncomputable def trRet (r:R) (p:Pos):S:=Option.casesOn (motive:=fun zz=>S) r.ifx (.ret r.e p) fun q=>.retL q.1.2.1.1 q.1.1 q.1.2.1.2 q.1.2.2.1 q.1.2.2.2.1 q.1.2.2.2.2 q.2.1 q.2.2.1 q.2.2.2 p
noncomputable def trSet (its:List Nm) (x:NP) (e:R) (p:Pos):S:=
 Option.casesOn (motive:=fun zz=>S) (e.call.bind fun q=>q.2.2.1.map fun y=>(q.1,y,q.2.2.2)) (.set x.1 x.2 e.e p) fun q=>
  bif nmEq q.1.1 n_iter then .iter x.1 x.2 q.2.1.1 q.2.1.2 q.1.2 q.2.2 p else bif nmEq q.1.1 n_next then .next x.1 x.2 q.2.1.1 q.2.1.2 q.1.2 q.2.2 p
  else bif memN q.2.1.1 its then .icall x.1 x.2 q.1.1 q.1.2 q.2.1.1 q.2.1.2 q.2.2 p else .set x.1 x.2 e.e p
noncomputable def trAsg (its:List Nm) (ts:List R) (e:R) (p:Pos) (raw:S):S:=match ts with
 | []=>raw
 | [t]=>Option.casesOn (motive:=fun zz=>S) t.nm
  (Option.casesOn (motive:=fun zz=>S) (t.attr.bind fun q=>q.2.1.map fun o=>(o,q.2.2)) (Option.casesOn (motive:=fun zz=>S) t.sub
   (Option.casesOn (motive:=fun zz=>S) t.tup raw fun q=>match q with
    | .tup xs k tp=>.tup xs k tp e.e p
    | .nm ..=>raw)
   fun q=>.item q.1.1 q.1.2 q.2.1 q.2.2 e.e p) fun q=>.attr q.1.1 q.1.2 q.2.1 q.2.2 e.e p)
  fun x=>trSet its x e p
 | ts=>match nmsX ts with
  | some (x :: y :: r)=>.many x y r e.e p
  | _=>raw
noncomputable def trAug (t:R) (op:Operator) (e:E) (p:Pos) (raw:S):S:=Option.casesOn (motive:=fun zz=>S) t.nm
 (Option.casesOn (motive:=fun zz=>S) t.sub raw fun q=>.augI q.1.1 q.1.2 q.2.1 q.2.2 op e p) fun q=>.augN q.1 q.2 op e p
mutual
noncomputable def trS (K:Ks) (its:List Nm):Stmt → S
 | .Return e p=>match e with
  | some e=>trRet (trE K e) p
  | none=>.raw (.Return none p)
 | .Assign ts e p=>trAsg its (trEs K ts) (trE K e) p (.raw (.Assign ts e p))
 | .AugAssign t op e p=>trAug (trE K t) op (trE K e).e p (.raw (.AugAssign t op e p))
 | .Expr e p=>Option.casesOn (motive:=fun zz=>S) (trE K e).app (.raw (.Expr e p)) fun q=>.app q.1.1 q.1.2 q.2.1 q.2.2.1 q.2.2.2 p
 | .If t a b p=>.ife (trE K t).e (trSs K its a) (trSs K its b) p
 | .While t a b p=>.whl (trE K t).e (trSs K its a) (trSs K its b) p
 | .For t it a b p=>.for (tgX (trE K t)) (itX (trE K it)) (trSs K its a) (trSs K its b) p
 | .Break p=>.brk p
 | .Pass p=>.pass p
 | s=>.raw s
noncomputable def trSs (K:Ks) (its:List Nm):List Stmt → List S
 | []=>[]
 | s :: r=>trS K its s :: trSs K its r
end
structure Gl where
 const:Nm → Option PV
 cattr:Nm → Nm → Option PV
 table:Nm → PV → Option (Option PV)
 inSet:Nm → PV → Option Bool
 fld:Nm → Bool
 call:Nm → List PV → Option PV
 meth:Nm → List PV → Option PV
 icall:Nm → List PV → Option (PV × List PV)
 fuel:Nat
 hot:List Nm
 sc:Ks
noncomputable def stOk (K:Ks) (x:Nm):Bool:=Option.casesOn (motive:=fun zz=>Bool) (kindN x K) false fun k=>decide (k=.local) || decide (k=.cell)
noncomputable def isFreeN (K:Ks) (x:Nm):Bool:=decide (kindN x K=some .free)
noncomputable def inner (sc:Scope) (σ:Sg):Sg:=σ.filter fun p=>isFreeN sc.names p.1
noncomputable def scN (K:Ks) (x:Nm) (k:NameKind):Bool:=NameKind.casesOn (motive:=fun zz=>Bool) k true true (!(nmEq x n_classdict) && (decide (kindN x K=some .cell) || decide (kindN x K=some .free))) false true
noncomputable def scOk (K:Ks) (sc:Scope):Bool:=decide (sc.kind=.function) && sc.names.all fun p=>decide (kindN (nm p.1) sc.names=some p.2) && scN K (nm p.1) p.2
noncomputable def slotEV (s:Slot):Option EV:=Slot.casesOn (motive:=fun zz=>Option EV) s (fun d=>some (.v d)) (fun l=>some (.h l)) (fun zz zz=>none) (fun zz=>none)
noncomputable def asOwn (s:Slot):Option (List PV):=Slot.casesOn (motive:=fun zz=>Option (List PV)) s (fun zz=>none) some (fun zz zz=>none) (fun zz=>none)
noncomputable def asIt (s:Slot):Option (Option Nat × List PV):=Slot.casesOn (motive:=fun zz=>Option (Option Nat × List PV)) s (fun zz=>none) (fun zz=>none) (fun t l=>some (t,l)) (fun zz=>none)
noncomputable def asSelf (s:Slot):Option (List (List Nat × PV)):=Slot.casesOn (motive:=fun zz=>Option (List (List Nat × PV))) s (fun zz=>none) (fun zz=>none) (fun zz zz=>none) some
noncomputable def asFz (s:Slot):Option PV:=Slot.casesOn (motive:=fun zz=>Option PV) s some (fun zz=>none) (fun zz zz=>none) (fun zz=>none)
noncomputable def asIn (s:Slot):Option (List (List Nat × PV)):=Slot.casesOn (motive:=fun zz=>Option (List (List Nat × PV))) s asF (fun zz=>none) (fun zz zz=>none) some
noncomputable def bindN:List NP → List PV → Sg → Option Sg
 | []=>fun l σ=>bif nilB l then some σ else none
 | q :: r=>fun l σ=>List.casesOn (motive:=fun zz=>Option Sg) l none fun d l=>bindN r l (putN q.1 (.fz d) σ)
noncomputable def namesT (K:Ks) (ts:List NP):Bool:=ts.all fun q=>stOk K q.1
noncomputable def bindT (K:Ks) (t:Tg) (d:PV) (σ:Sg):Option Sg:=Tg.casesOn (motive:=fun zz=>Option Sg) t
 (fun x zz=>bif stOk K x then some (putN x (.fz d) σ) else none) (fun ts zz zz=>(asLT d).bind fun l=>bif namesT K ts then bindN ts l σ else none)
noncomputable def newN (σ:Sg) (x:Nm):Bool:=(lookN x σ).isNone
noncomputable def freshT (σ:Sg) (t:Tg):Bool:=Tg.casesOn (motive:=fun zz=>Bool) t (fun x zz=>newN σ x) (fun ts zz zz=>ts.all fun q=>newN σ q.1)
noncomputable def bindC (K:Ks) (t:Tg) (d:PV) (σ:Sg):Option Sg:=bif freshT σ t then bindT K t d σ else none
noncomputable def tOk (t:Tg) (it:It):Bool:=It.casesOn (motive_3:=fun zz=>Bool) it (fun zz=>true) (fun zz zz zz=>true) (fun zz zz zz=>Tg.casesOn (motive:=fun zz=>Bool) t (fun zz zz=>false) fun zz zz zz=>true)
structure GenV where
 t:Tg
 it:Sg → Option (List PV)
 ifs:Sg → Option Bool
noncomputable def oneO (o:Option EV):Option (List PV):=(valO o).map fun d=>[d]
noncomputable def compTurn (K:Ks) (g:GenV) (k:Sg → Option (List PV)) (σ:Sg) (d:PV):Option (List PV):=(bindC K g.t d σ).bind fun σ'=>(g.ifs σ').bind fun b=>bif b then k σ' else some []
noncomputable def compRun (K:Ks) (elt:Sg → Option EV):List GenV → Sg → Option (List PV)
 | [],σ=>oneO (elt σ)
 | g :: more,σ=>(g.it σ).bind (compLoop (compTurn K g (compRun K elt more) σ))
noncomputable def nameV (x:Nm) (σ:Sg):Option EV:=bif nmEq x n_debug then none else (lookN x σ).bind slotEV
noncomputable def gnV (G:Gl) (x:Nm):Option EV:=bif isGl G.sc x then (G.const x).map .v else none
noncomputable def binE (op:Operator) (a b:Option EV):Option EV:=a.bind fun a=>b.bind fun b=>(binP op a.pv b.pv).map .v
noncomputable def negE (o:Option EV):Option EV:=((valO o).bind asI).map fun i=>.v (.int (-i))
noncomputable def notE (o:Option EV):Option EV:=o.bind fun d=>(truthP d.pv).map fun b=>.v (.bool !b)
noncomputable def ifE (t:Option Bool) (a b:Option EV):Option EV:=t.bind fun t=>bif t then a else b
noncomputable def chainE (ops:List CmpOp) (l:Option EV) (cs:List (Option EV)):Option EV:=l.bind fun a=>(chainP a.pv ops cs).map fun b=>.v (.bool b)
noncomputable def inE (G:Gl) (x:Nm) (l:Option EV):Option EV:=(valO l).bind fun a=>bif isGl G.sc x then (G.inSet x a).map fun b=>.v (.bool b) else none
noncomputable def listE (L:List (Option EV)):Option EV:=(eachV L).bind fun l=>mkV (.list l)
noncomputable def tupE (L:List (Option EV)):Option EV:=(eachV L).bind fun l=>mkV (.tuple l)
noncomputable def attrE (G:Gl) (o a:Nm) (σ:Sg):Option EV:=bif nmEq o n_debug then none else (lookN o σ).bind fun s=>(asIn s).bind fun fs=>bif G.fld a then (lookN a fs).map .v else none
noncomputable def cattrE (G:Gl) (c a:Nm):Option EV:=bif isGl G.sc c then (G.cattr c a).map .v else none
noncomputable def sliceE (o:Option EV) (lo hi st:Option (Option Int)):Option EV:=o.bind fun x=>(asL x.pv).bind fun xs=>lo.bind fun lo=>hi.bind fun hi=>st.bind fun st=>
 bif smallN xs.length then (sliceP xs lo hi st).bind fun l=>mkV (.list l) else none
noncomputable def subE (o i:Option EV):Option EV:=o.bind fun x=>((valO i).bind asI).bind fun i=>atEV x i
noncomputable def tabE (G:Gl) (x:Nm) (i:Option EV):Option EV:=bif isGl G.sc x then (valO i).bind fun d=>(G.table x d).bind fun r=>r.map .v else none
noncomputable def callBE (G:Gl) (f:Nm) (L:List (Option EV)):Option EV:=bif isGl G.sc f && isBuiltin f then (eachPV L).bind fun l=>(builtinP f l).bind mkV else none
noncomputable def callDE (G:Gl) (f:Nm) (L:List (Option EV)):Option EV:=bif isGl G.sc f then (eachV L).bind fun l=>(G.call f l).map .v else none
noncomputable def lrE (G:Gl) (L:List (Option EV)):Option EV:=bif isGl G.sc n_list && isGl G.sc n_range then (rangeA (eachV L)).bind fun l=>mkV (.list l) else none
noncomputable def instM (G:Gl) (m:Nm) (fs:List (List Nat × PV)) (L:List (Option EV)):Option EV:=(eachV L).bind fun l=>bif (lookN m fs).isNone then (G.meth m (.inst fs :: l)).map .v else none
noncomputable def valM (m:Nm) (x:PV) (L:List (Option EV)):Option EV:=(eachPV L).bind fun l=>(methodP m x l).bind mkV
noncomputable def methE (G:Gl) (m:Nm) (few:Bool) (o:Option EV) (L:List (Option EV)):Option EV:=bif few then o.bind fun x=>Option.casesOn (motive:=fun zz=>Option EV) (asF x.pv) (valM m x.pv L) fun fs=>instM G m fs L else none
noncomputable def getR (G:Gl) (x:Nm) (l:List PV):Option PV:=List.casesOn (motive:=fun zz=>Option PV) l none fun k r=>(G.table x k).bind fun v=>List.casesOn (motive:=fun zz=>Option PV) r (some (v.getD .none)) fun d r=>bif nilB r then some (v.getD d) else none
noncomputable def getE (G:Gl) (x:Nm) (few:Bool) (L:List (Option EV)):Option EV:=bif few && isGl G.sc x then (eachV L).bind fun l=>(getR G x l).map .v else none
noncomputable def fewB (es:List E) (ap p:Pos):Bool:=(ap.endLine == p.line) && decide (es.length < 20)
noncomputable def baseB (o:E):Bool:=match o with
 | .callB _ _ es _=>!(nilB es)
 | .callD _ _ es _=>!(nilB es)
 | .raw _=>false
 | _=>true
noncomputable def cmpOk (ops:List CmpOp) (cs:List E):Bool:=!(lastMarks ops (bs cs)) && (ops.length == cs.length)
noncomputable def compE (K:Ks) (elt:Sg → Option EV) (g:GenV) (more:List GenV) (xs:Option (List PV)) (σ:Sg):Option EV:=xs.bind fun xs=>(compLoop (compTurn K g (compRun K elt more) σ) xs).bind fun l=>mkV (.list l)
noncomputable def trV (whole:Option EV):Option Bool:=whole.bind fun d=>truthP d.pv
mutual
noncomputable def ev (G:Gl):E → Sg → Option EV
 | .const c _ _,σ=>(constP c).map .v
 | .name x _,σ=>nameV x σ
 | .gname x _,_=>gnV G x
 | .bin l op r _,σ=>binE op (ev G l σ) (ev G r σ)
 | .neg x _,σ=>negE (ev G x σ)
 | .not x _,σ=>notE (ev G x σ)
 | .bool ..,_=>none
 | .ite t a b _,σ=>ifE (tr G t σ (ev G t σ)) (ev G a σ) (ev G b σ)
 | .cmp l ops cs _,σ=>bif cmpOk ops cs then chainE ops (ev G l σ) (evs G cs σ) else none
 | .inS l x _ _,σ=>inE G x (ev G l σ)
 | .list es _,σ=>listE (evs G es σ)
 | .tup es _ _,σ=>tupE (evs G es σ)
 | .comp elt g gs sc _,σ=>bif scOk G.sc sc && decide (gs.length ≤ 1) then compE sc.names (ev { G with sc:=sc.names } elt) (gen1 { G with sc:=sc.names } g) (gens { G with sc:=sc.names } gs) (gen0 G g σ) (inner sc σ) else none
 | .attr o _ a _,σ=>attrE G o a σ
 | .cattr o _ a _,_=>cattrE G o a
 | .sub o i _,σ=>subE (ev G o σ) (ev G i σ)
 | .tab x _ i _,σ=>tabE G x (ev G i σ)
 | .slice o lo hi st _ _,σ=>sliceE (ev G o σ) (evO G lo σ) (evO G hi σ) (evO G st σ)
 | .callB f _ es _,σ=>callBE G f (evs G es σ)
 | .callD f _ es _,σ=>callDE G f (evs G es σ)
 | .lrange _ _ es _ _,σ=>lrE G (evs G es σ)
 | .meth o m ap es p,σ=>methE G m (fewB es ap p && baseB o) (ev G o σ) (evs G es σ)
 | .get x _ ap es p,σ=>getE G x (fewB es ap p) (evs G es σ)
 | .raw _,_=>none
noncomputable def evO (G:Gl):Option E → Sg → Option (Option Int)
 | none,_=>some none
 | some e,σ=>((valO (ev G e σ)).bind asI).map some
noncomputable def evs (G:Gl):List E → Sg → List (Option EV)
 | [],_=>[]
 | e :: r,σ=>ev G e σ :: evs G r σ
noncomputable def tr (G:Gl):E → Sg → Option EV → Option Bool
 | .not x _,σ,_=>(tr G x σ (ev G x σ)).map (!·)
 | .bool op xs _,σ,_=>trs G op xs σ
 | .ite ..,_,_=>none
 | .raw _,_,_=>none
 | .const ..,_,o=>trV o
 | .name ..,_,o=>trV o
 | .gname ..,_,o=>trV o
 | .bin ..,_,o=>trV o
 | .neg ..,_,o=>trV o
 | .cmp ..,_,o=>trV o
 | .inS ..,_,o=>trV o
 | .list ..,_,o=>trV o
 | .tup ..,_,o=>trV o
 | .comp ..,_,o=>trV o
 | .attr ..,_,o=>trV o
 | .cattr ..,_,o=>trV o
 | .sub ..,_,o=>trV o
 | .tab ..,_,o=>trV o
 | .slice ..,_,o=>trV o
 | .callB ..,_,o=>trV o
 | .callD ..,_,o=>trV o
 | .lrange ..,_,o=>trV o
 | .meth ..,_,o=>trV o
 | .get ..,_,o=>trV o
noncomputable def trs (G:Gl) (op:BoolOp):List E → Sg → Option Bool
 | [],_=>some (BoolOp.casesOn (motive:=fun zz=>Bool) op true false)
 | x :: r,σ=>(tr G x σ (ev G x σ)).bind fun t=>BoolOp.casesOn (motive:=fun zz=>Option Bool) op (bif t then trs G op r σ else some false) (bif t then some true else trs G op r σ)
noncomputable def iterOf (G:Gl):It → Sg → Option (List PV)
 | .val e,σ=>(valO (ev G e σ)).bind itemsP
 | .range _ es _,σ=>bif isGl G.sc n_range then rangeA (eachV (evs G es σ)) else none
 | .zip _ es _,σ=>bif isGl G.sc n_zip then zipA (eachV (evs G es σ)) else none
noncomputable def gen0 (G:Gl):Gn → Sg → Option (List PV)
 | .mk t it _,σ=>bif tOk t it then iterOf G it σ else none
noncomputable def gen1 (G:Gl):Gn → GenV
 | .mk t it ifs=>⟨t,fun σ=>bif tOk t it then iterOf G it σ else none,trs G .And ifs⟩
noncomputable def gens (G:Gl):List Gn → List GenV
 | []=>[]
 | g :: r=>gen1 G g :: gens G r
end
inductive Fl where
 | next
 | brk
 | ret (d:PV)
noncomputable abbrev Rs:=Option (Fl × Sg)
noncomputable def n_init:List Nat:=[95,95,105,110,105,116,95,95]
noncomputable def freshE (e:E):Bool:=match e with
 | .list ..=>true
 | .comp ..=>true
 | .bin _ op _ _=>decide (op=.Add) || decide (op=.Mult)
 | _=>false
noncomputable def isLC (e:E):Bool:=match e with
 | .comp ..=>true
 | _=>false
noncomputable def isTupE (e:E):Bool:=match e with
 | .tup ..=>true
 | _=>false
noncomputable def isAttrE (e:E):Bool:=match e with
 | .attr ..=>true
 | .cattr ..=>true
 | _=>false
noncomputable def partsE (e:E):List E:=match e with
 | .tup es _ _=>es
 | _=>[]
noncomputable def tupOk (ts:List NP) (value:E):Bool:=!(isTupE value) || (match two ts,two (partsE value) with
 | some (a,b),some (u,_)=>isAttrE u && !(nmEq a.1 b.1)
 | _,_=>false)
noncomputable def frzS (s:Slot):Slot:=Slot.casesOn (motive:=fun zz=>Slot) s .fz (fun xs=>.fz (.list xs)) .iter (fun fs=>.fz (.inst fs))
noncomputable def frz (σ:Sg):Sg:=σ.map fun p=>(p.1,frzS p.2)
noncomputable def dropN (x:Nm) (σ:Sg):Sg:=σ.filter fun p=>!(nmEq p.1 x)
noncomputable def newSlot (hot:Bool) (d:PV):Slot:=PV.casesOn (motive_1:=fun zz=>Slot) d (.fz .none) (fun b=>.fz (.bool b)) (fun i=>.fz (.int i)) (fun s=>.fz (.str s)) (fun s=>.fz (.bytes s)) (fun xs=>bif hot then .own xs else .fz (.list xs)) (fun s=>.fz (.tuple s)) (fun s=>.fz (.inst s))
noncomputable def storeP (G:Gl) (x:Nm) (e:E) (d:EV) (σ:Sg):Option Sg:=
 bif stOk G.sc x then EV.casesOn (motive:=fun zz=>Option Sg) d (fun d=>some (putN x (newSlot (freshE e && memN x G.hot) d) σ)) fun zz=>none else none
noncomputable def putAll (K:Ks) (d:PV):List NP → Sg → Option Sg
 | [],σ=>some σ
 | q :: r,σ=>bif stOk K q.1 then putAll K d r (putN q.1 (.fz d) σ) else none
noncomputable def ownAt (x:Nm) (σ:Sg):Option (List PV):=(lookN x σ).bind asOwn
noncomputable def setAt (x:Nm) (i:PV) (d:PV) (σ:Sg):Option Sg:=(ownAt x σ).bind fun xs=>(asI i).bind fun i=>(setI xs i d).map fun l=>putN x (.own l) σ
noncomputable def getAt (x:Nm) (i:PV) (σ:Sg):Option PV:=(ownAt x σ).bind fun xs=>(asI i).bind fun i=>atI xs i
noncomputable def forLoop (K:Ks) (t:Tg) (body:Sg → Rs) (els:Sg → Rs):List PV → Sg → Rs
 | [],σ=>els σ
 | d :: r,σ=>match bindT K t d σ with
  | none=>none
  | some σ=>match body σ with
   | some (.next,σ)=>forLoop K t body els r σ
   | some (.brk,σ)=>some (.next,σ)
   | x=>x
noncomputable def whileLoop (test:Sg → Option Bool) (body:Sg → Rs) (els:Sg → Rs):Nat → Sg → Rs
 | 0,_=>none
 | n + 1,σ=>match test σ with
  | some false=>els σ
  | some true=>match body σ with
   | some (.next,σ)=>whileLoop test body els n σ
   | some (.brk,σ)=>some (.next,σ)
   | x=>x
  | none=>none
noncomputable def nextR (o:Option Sg):Rs:=o.map fun σ=>(.next,σ)
noncomputable def augI (op:Operator) (x y:Int):Option Int:=match op with
 | .Add=>some (x + y)
 | .BitAnd=>some (Builtin.bitAnd x y)
 | .BitOr=>some (Builtin.bitOr x y)
 | .BitXor=>some (Builtin.bitXor x y)
 | .LShift=>bif decide (0 ≤ y) && decide (y ≤ 1000000) && decide (x.natAbs < 2 ^ 64) then some (x * 2 ^ y.toNat) else none
 | .RShift=>bif decide (0 ≤ y) then some (x.fdiv (2 ^ y.toNat)) else none
 | _=>none
noncomputable def augP (op:Operator) (a b:PV):Option PV:=(asI a).bind fun x=>(asI b).bind fun y=>(augI op x y).map .int
noncomputable def retV (d:Option EV) (σ:Sg):Rs:=(valO d).map fun d=>(.ret d,σ)
noncomputable def itAt (x:Nm) (σ:Sg):Option (Option Nat × List PV):=bif nmEq x n_debug then none else (lookN x σ).bind asIt
noncomputable def retL (G:Gl) (it:Nm) (r:Sg → Option EV) (σ:Sg):Rs:=(itAt it σ).bind fun q=>bif nilB q.2 && isGl G.sc n_list then retV (r (frz (dropN it σ))) (dropN it σ) else none
noncomputable def asBy (d:PV):Option (List Nat):=PV.casesOn (motive_1:=fun zz=>Option (List Nat)) d none (fun zz=>none) (fun zz=>none) (fun zz=>none) some (fun zz=>none) (fun zz=>none) (fun zz=>none)
noncomputable def iterS (G:Gl) (x y:Nm) (σ:Sg):Rs:=bif nmEq y n_debug then none else bif stOk G.sc x && isGl G.sc n_iter then ((lookN y σ).bind fun s=>(asFz s).bind asBy).map fun b=>(.next,putN x (.iter none (b.map fun c=>.int (Int.ofNat c))) σ) else none
noncomputable def nextS (G:Gl) (x it:Nm) (σ:Sg):Rs:=bif stOk G.sc x && isGl G.sc n_next then (itAt it σ).bind fun q=>List.casesOn (motive:=fun zz=>Rs) q.2 none fun d r=>some (.next,putN x (.fz d) (putN it (.iter q.1 r) σ)) else none
noncomputable def icallS (G:Gl) (x f it:Nm) (σ:Sg):Rs:=bif stOk G.sc x && isGl G.sc f then (itAt it σ).bind fun q=>(G.icall f q.2).map fun r=>(.next,putN x (.fz r.1) (putN it (.iter q.1 r.2) σ)) else none
noncomputable def setS (G:Gl) (x:Nm) (e:E) (v:Option EV) (σ:Sg):Rs:=nextR (v.bind fun d=>storeP G x e d σ)
noncomputable def manyS (G:Gl) (xs:List NP) (v:Option EV) (σ:Sg):Rs:=nextR ((valO v).bind fun d=>putAll G.sc d xs σ)
noncomputable def tupS (G:Gl) (xs:List NP) (e:E) (k:Nat) (tp:Pos) (v:Option EV) (σ:Sg):Rs:=nextR (bif tupOk xs e && !(isLC e) then (valO v).bind fun d=>bindT G.sc (.tup xs k tp) d σ else none)
noncomputable def attrS (G:Gl) (o a:Nm) (e:E) (v:Option EV) (σ:Sg):Rs:=nextR (bif nmEq o n_debug then none else bif G.fld a && !(isLC e) then ((lookN o σ).bind asSelf).bind fun fs=>bif decide (fs.length < 1000) then (valO v).map fun d=>putN o (.self (putN a d fs)) σ else none else none)
noncomputable def itemS (x:Nm) (i v:Option EV) (σ:Sg):Rs:=nextR (bif nmEq x n_debug then none else (valO v).bind fun d=>(valO i).bind fun i=>setAt x i d σ)
noncomputable def augN (G:Gl) (x:Nm) (op:Operator) (v:Option EV) (σ:Sg):Rs:=nextR (bif !(stOk G.sc x) || nmEq x n_debug then none else (lookN x σ).bind fun s=>(valO v).bind fun b=>Slot.casesOn (motive:=fun zz=>Option Sg) s
 (fun a=>(augP op a b).map fun d=>putN x (.fz d) σ) (fun xs=>bif decide (op=.Add) then (asL b).bind fun ys=>(catN xs ys).map fun l=>putN x (.own l) σ else none) (fun zz zz=>none) (fun zz=>none))
noncomputable def augS (x:Nm) (op:Operator) (i v:Option EV) (σ:Sg):Rs:=nextR (bif nmEq x n_debug then none else (valO i).bind fun i=>(valO v).bind fun b=>(getAt x i σ).bind fun a=>(augP op a b).bind fun d=>setAt x i d σ)
noncomputable def appS (x:Nm) (one:Bool) (v:Option EV) (σ:Sg):Rs:=nextR (bif nmEq x n_debug then none else bif one then (ownAt x σ).bind fun xs=>(valO v).bind fun d=>bif smallN (xs.length + 1) then some (putN x (.own (xs ++ [d])) σ) else none else none)
noncomputable def ifS (t:Option Bool) (a b:Rs):Rs:=t.bind fun t=>bif t then a else b
noncomputable def thenS (a:Rs) (f:Sg → Rs):Rs:=match a with
  | some (.next,σ)=>f σ
  | x=>x
mutual
noncomputable def ex (G:Gl):S → Sg → Rs
 | .ret e _,σ=>retV (ev G e (frz σ)) σ
 | .retL it _ _ _ _ _ a _ _ _,σ=>retL G it (ev G a) σ
 | .set x _ e _,σ=>setS G x e (ev G e σ) σ
 | .iter x _ y _ _ _ _,σ=>iterS G x y σ
 | .next x _ it _ _ _ _,σ=>nextS G x it σ
 | .icall x _ f _ it _ _ _,σ=>icallS G x f it σ
 | .many x y xs e _,σ=>manyS G (x :: y :: xs) (ev G e σ) σ
 | .tup xs k tp e _,σ=>tupS G xs e k tp (ev G e σ) σ
 | .attr o _ a _ e _,σ=>attrS G o a e (ev G e σ) σ
 | .item x _ i _ e _,σ=>itemS x (ev G i σ) (ev G e σ) σ
 | .augN x _ op e _,σ=>augN G x op (ev G e σ) σ
 | .augI x _ i _ op e _,σ=>augS x op (ev G i σ) (ev G e σ) σ
 | .app x _ ap e cp _,σ=>appS x (ap.endLine == cp.line) (ev G e σ) σ
 | .ife t a b _,σ=>ifS (tr G t σ (ev G t σ)) (exs G a σ) (exs G b σ)
 | .whl t a b _,σ=>whileLoop (fun σ=>tr G t σ (ev G t σ)) (exs G a) (exs G b) G.fuel σ
 | .for t it a b _,σ=>bif tOk t it then (iterOf G it σ).bind fun xs=>forLoop G.sc t (exs G a) (exs G b) xs σ else none
 | .brk _,σ=>some (.brk,σ)
 | .pass _,σ=>some (.next,σ)
 | .raw _,_=>none
noncomputable def exs (G:Gl):List S → Sg → Rs
 | [],σ=>some (.next,σ)
 | s :: r,σ=>thenS (ex G s σ) (exs G r)
end
mutual
noncomputable def hotS:S → List Nm
 | .item x ..=>[x]
 | .augN x ..=>[x]
 | .augI x ..=>[x]
 | .app x ..=>[x]
 | .ife _ a b _=>hotSs a ++ hotSs b
 | .whl _ a b _=>hotSs a ++ hotSs b
 | .for _ _ a b _=>hotSs a ++ hotSs b
 | _=>[]
noncomputable def hotSs:List S → List Nm
 | []=>[]
 | s :: r=>hotS s ++ hotSs r
end
noncomputable def itsS:S → List Nm
 | .iter x ..=>[x]
 | .next _ _ it ..=>[it]
 | _=>[]
structure Df where
 sc:Scope
 params:List Nm
 body:List S
 hot:List Nm
noncomputable def dfOf (a:Arguments) (b:List Stmt) (sc:Scope):Df:=⟨sc,a.args.map fun x=>nm x.arg,trSs sc.names ((trSs sc.names [] b).flatMap itsS) b,hotSs (trSs sc.names [] b)⟩
noncomputable def dfsOf:List Stmt → List (Nm × Df)
 | []=>[]
 | s :: r=>match s with
  | .FunctionDef n a b _ _ _ sc _ _ _=>(nm n,dfOf a b sc) :: dfsOf r
  | _=>dfsOf r
noncomputable def clsOf:List Stmt → List (Nm × List (Nm × Df))
 | []=>[]
 | s :: r=>match s with
  | .ClassDef n _ _ b _ _ _ _ _ _ _=>(nm n,dfsOf b) :: clsOf r
  | _=>clsOf r
structure Tx where
 dfs:List (Nm × Df)
 cls:Nm
 meths:List (Nm × Df)
 const:Nm → Option PV
 cattr:Nm → Nm → Option PV
 table:Nm → PV → Option (Option PV)
 inSet:Nm → PV → Option Bool
 fld:Nm → Bool
 icall:Nm → List PV → Option (PV × List PV)
 fuel:Nat
noncomputable def retOf (r:Rs):Option PV:=r.bind fun q=>Fl.casesOn (motive:=fun zz=>Option PV) q.1 (some .none) none some
noncomputable def glOf (T:Tx) (call:Nm → List PV → Option PV) (meth:Nm → List PV → Option PV) (D:Df):Gl:=
 {const:=T.const,cattr:=T.cattr,table:=T.table,inSet:=T.inSet,fld:=T.fld,call,meth,icall:=T.icall,fuel:=T.fuel,hot:=D.hot,sc:=D.sc.names }
noncomputable def zipArgs:List Nm → List PV → Sg
 | []=>fun zz=>[]
 | x :: r=>fun l=>List.casesOn (motive:=fun zz=>Sg) l [] fun d l=>(x,.fz d) :: zipArgs r l
structure Oracle where
 call:Nm → List PV → Option PV
 meth:Nm → List PV → Option PV
noncomputable def callDf (G:Df → Gl) (o:Option Df) (args:List PV):Option PV:=o.bind fun D=>bif D.params.length == args.length then retOf (exs (G D) D.body (zipArgs D.params args)) else none
noncomputable def madeOf (s:Nm) (r:Rs):Option PV:=r.bind fun q=>Fl.casesOn (motive:=fun zz=>Option PV) q.1 (((lookN s q.2).bind asSelf).map .inst) none fun zz=>none
noncomputable def makeIn (G:Df → Gl) (o:Option Df) (args:List PV):Option PV:=o.bind fun D=>(one args).bind fun d=>(two D.params).bind fun p=>madeOf p.1 (exs (G D) D.body [(p.1,.self []),(p.2,.fz d)])
noncomputable def oracle (T:Tx):Nat → Oracle
 | 0=>⟨fun zz zz=>none,fun zz zz=>none⟩
 | n + 1=>
  {call:=fun f args=>bif nmEq f T.cls then makeIn (glOf T (oracle T n).call (oracle T n).meth) (lookN n_init T.meths) args else callDf (glOf T (oracle T n).call (oracle T n).meth) (lookN f T.dfs) args
   meth:=fun f args=>callDf (glOf T (oracle T n).call (oracle T n).meth) (lookN f T.meths) args }
structure Cx where
 cls:Addr
 hb:Heap
 gl:Addr
 bi:Addr
 gm:PySem.Str → Option Value
 bm:PySem.Str → Option Value
 me:Value → Prop
noncomputable abbrev listO (its:List Value) (n:Nat):Obj:={ cls:=.type "list",data:=.seq its.toArray n }
noncomputable abbrev tupO (its:List Value) (n:Nat):Obj:={ cls:=.type "tuple",data:=.seq its.toArray n }
noncomputable abbrev strV (s:List Nat) (t:Tok):Value:=.str ⟨s.toArray⟩ t
noncomputable def Keep (X:Addr → Prop) (h h':Heap):Prop:=∀ a o,h.get? a=some o → ¬ X a → h'.get? a=some o
noncomputable abbrev NoX:Addr → Prop:=fun zz=>False
section
variable {X Y:Addr → Prop} {h h' h'':Heap}
theorem Keep.refl (X:Addr → Prop) (h:Heap):Keep X h h:=fun zz zz e zz=>e
theorem Keep.trans (a:Keep X h h') (b:Keep X h' h''):Keep X h h'':=fun x o e n=>b x o (a x o e n) n
theorem Keep.mono (a:Keep X h h') (i:∀ x,X x → Y x):Keep Y h h':=fun x o e n=>a x o e fun q=>n (i x q)
theorem Keep.any (a:Keep NoX h h'):Keep X h h':=fun x o e zz=>a x o e id
theorem Keep.push (X:Addr → Prop) (h:Heap) (o:Obj):Keep X h (h.push o):=fun zz zz e zz=>Heap.get?_push_of_some _ e
end
inductive IntV (i:Int):Value → Prop
 | mk (t:Tok):IntV i (.int i t)
inductive StrV (s:List Nat):Value → Prop
 | mk (t:Tok):StrV s (strV s t)
inductive ByV (b:List Nat):Value → Prop
 | mk (t:Tok) (h:∀ c ∈ b,c < 256):ByV b (.bytes (b.map fun c=>c.toUInt8).toArray t)
inductive LV (N:Addr → Prop) (h:Heap) (T:List Value → Nat → Obj) (R:List Value → Prop):Value → Prop
 | mk {a:Addr} {its:List Value} {n:Nat} (x:N a) (g:h.get? a=some (T its n)) (r:R its):LV N h T R (.ref a)
inductive IV (C:Cx) (N:Addr → Prop) (h:Heap) (R:(PySem.Str → Option Value) → Prop):Value → Prop
 | mk {a d:Addr} {o:Obj} {mA:PySem.Str → Option Value} (x:N a) (x':N d) (ne:d ≠ a) (g:h.get? a=some o) (oc:o.cls=.ref C.cls) (od:o.dict=some d) (on:∀ c,o.data ≠ .cls c) (nd:h.Ns1 d mA) (r:R mA):IV C N h R (.ref a)
inductive Cons1 (P:Value → Prop) (Q:List Value → Prop):List Value → Prop
 | mk {v:Value} {l:List Value} (p:P v) (q:Q l):Cons1 P Q (v :: l)
inductive ConsF (x:Nm) (P:Value → Prop) (Q:(PySem.Str → Option Value) → Prop) (m:PySem.Str → Option Value):Prop
 | mk {v:Value} {m':PySem.Str → Option Value} (p:P v) (q:Q m') (e:∀ y,m y=if y=mkS x then some v else m' y):ConsF x P Q m
mutual
noncomputable def Rep (C:Cx) (X:Addr → Prop) (h:Heap):PV → Value → Prop
 | .none=>fun v=>v=.none
 | .bool b=>fun v=>v=.bool b
 | .int i=>IntV i
 | .str s=>StrV s
 | .bytes b=>ByV b
 | .list xs=>LV (fun a=>¬ X a) h listO (Reps C X h xs)
 | .tuple xs=>LV (fun a=>¬ X a) h tupO (Reps C X h xs)
 | .inst fs=>IV C (fun a=>¬ X a) h (RepF C X h fs)
noncomputable def Reps (C:Cx) (X:Addr → Prop) (h:Heap):List PV → List Value → Prop
 | []=>fun vs=>vs=[]
 | d :: r=>Cons1 (Rep C X h d) (Reps C X h r)
noncomputable def RepF (C:Cx) (X:Addr → Prop) (h:Heap):List (List Nat × PV) → (PySem.Str → Option Value) → Prop
 | []=>fun m=>∀ y,m y=none
 | p :: r=>ConsF p.1 (Rep C X h p.2) (RepF C X h r)
end
structure Fit (X Y:Addr → Prop) (h h':Heap):Prop where
 k:Keep X h h'
 s:∀ a o,h.get? a=some o → ¬ X a → ¬ Y a
section
variable {C:Cx} {X Y N N':Addr → Prop} {h h':Heap} {T:List Value → Nat → Obj} {R R':List Value → Prop} {Q Q':(PySem.Str → Option Value) → Prop}
theorem LV.map {v:Value} (r:LV N h T R v) (f:∀ a o,N a → h.get? a=some o → N' a ∧ h'.get? a=some o) (g:∀ l,R l → R' l):LV N' h' T R' v:=by
 cases r with | mk x e r=>exact ⟨(f _ _ x e).1,(f _ _ x e).2,g _ r⟩
theorem IV.map {v:Value} (r:IV C N h Q v) (f:∀ a o,N a → h.get? a=some o → N' a ∧ h'.get? a=some o) (g:∀ l,Q l → Q' l):IV C N' h' Q' v:=by
 cases r with | mk x x' ne e oc od on nd r=>
  obtain ⟨o',es,ep,g',r'⟩:=id nd
  exact ⟨(f _ _ x e).1,(f _ _ x' g').1,ne,(f _ _ x e).2,oc,od,on,nd.at fun o'' e''=>(f _ _ x' e'').2,g _ r⟩
theorem Fit.map (k:Fit X Y h h') (a:Addr) (o:Obj) (n:¬ X a) (e:h.get? a=some o):¬ Y a ∧ h'.get? a=some o:=⟨k.s a o e n,k.k a o e n⟩
theorem Fit.of (k:Keep X h h'):Fit X X h h':=⟨k,fun zz zz zz n=>n⟩
theorem Fit.nox (k:Keep NoX h h'):Fit X X h h':=.of k.any
mutual
theorem Rep.keep (k:Fit X Y h h'):∀ (d:PV) {v:Value},Rep C X h d v → Rep C Y h' d v
 | .none,_,r=>r
 | .bool _,_,r=>r
 | .int _,_,r=>r
 | .str _,_,r=>r
 | .bytes _,_,r=>r
 | .list xs,_,r=>LV.map r k.map fun l=>Reps.keep k xs (vs:=l)
 | .tuple xs,_,r=>LV.map r k.map fun l=>Reps.keep k xs (vs:=l)
 | .inst fs,_,r=>IV.map r k.map fun l=>RepF.keep k fs (m:=l)
theorem Reps.keep (k:Fit X Y h h'):∀ (ds:List PV) {vs:List Value},Reps C X h ds vs → Reps C Y h' ds vs
 | [],_,r=>r
 | d :: ds,_,r=>Cons1.casesOn (motive:=fun vs zz=>Cons1 (Rep C Y h' d) (Reps C Y h' ds) vs) r fun p q=>⟨Rep.keep k d p,Reps.keep k ds q⟩
theorem RepF.keep (k:Fit X Y h h'):∀ (fs:List (List Nat × PV)) {m:PySem.Str → Option Value},RepF C X h fs m → RepF C Y h' fs m
 | [],_,r=>r
 | p :: fs,m,r=>ConsF.casesOn (motive:=fun zz=>ConsF p.1 (Rep C Y h' p.2) (RepF C Y h' fs) m) r fun a b e=>⟨Rep.keep k p.2 a,RepF.keep k fs b,e⟩
end
theorem Reps.length:∀ {ds:List PV} {vs:List Value},Reps C X h ds vs → ds.length=vs.length
 | [],_,r=>(congrArg List.length r).symm
 | _ :: ds,_,⟨_,q⟩=>congrArg (· + 1) (Reps.length (ds:=ds) q)
theorem Reps.append {ds':List PV} {vs':List Value} (r':Reps C X h ds' vs'):∀ {ds:List PV} {vs:List Value},Reps C X h ds vs → Reps C X h (ds ++ ds') (vs ++ vs')
 | [],_,r=>by cases r; exact r'
 | _ :: ds,_,⟨p,q⟩=>⟨p,Reps.append r' (ds:=ds) q⟩
theorem Reps.get:∀ {ds:List PV} {vs:List Value},Reps C X h ds vs → ∀ (i:Nat) (d:PV),ds[i]?=some d → ∃ v,vs[i]?=some v ∧ Rep C X h d v
 | x :: _,_,⟨p,_⟩,0,_,e=>⟨_,rfl,Option.some.inj e ▸ p⟩
 | _ :: ds,_,⟨_,q⟩,i + 1,d,e=>Reps.get (ds:=ds) q i d e
end
theorem mkS_nm (s:PySem.Str):mkS (nm s)=s:=by cases s; rfl
theorem nm_inj {a b:PySem.Str} (h:nm a=nm b):a=b:=by rw [← mkS_nm a,h,mkS_nm]
theorem mkS_inj {a b:Nm} (h:mkS a=mkS b):a=b:=congrArg nm h
theorem nmEq_of:∀ {a b:List Nat},nmEq a b=true → a=b
 | [],[],_=>rfl
 | x :: l,y :: m,h=>by
  have h:=Bool.and_eq_true_iff.mp (show ((x == y) && nmEq l m)=true from h)
  rw [eq_of_beq h.1,nmEq_of h.2]
theorem nmEq_self:∀ a:List Nat,nmEq a a=true
 | []=>rfl
 | x :: l=>by show ((x == x) && nmEq l l)=true; rw [beq_self_eq_true,nmEq_self l]; rfl
theorem nmEq_ne {a b:List Nat} (h:a ≠ b):nmEq a b=false:=Bool.eq_false_iff.mpr fun e=>h (nmEq_of e)
theorem lookN_put {α:Type} (x y:Nm) (v:α):∀ l:List (Nm × α),lookN y (putN x v l)=if y=x then some v else lookN y l
 | []=>by
  show (bif nmEq x y then some v else none)=if y=x then some v else none
  by_cases h:y=x
  ·rw [if_pos h,h,nmEq_self]; rfl
  ·rw [if_neg h,nmEq_ne (Ne.symm h)]; rfl
 | p :: r=>by
  have ih:=lookN_put x y v r
  show lookN y (bif nmEq p.1 x then (p.1,v) :: r else p :: putN x v r)=if y=x then some v else bif nmEq p.1 y then some p.2 else lookN y r
  by_cases hz:p.1=x
  ·rw [hz,nmEq_self]
   show (bif nmEq x y then some v else lookN y r)=_
   by_cases h:y=x
   ·rw [if_pos h,h,nmEq_self]; rfl
   ·rw [if_neg h,nmEq_ne (Ne.symm h)]; rfl
  ·rw [nmEq_ne hz]
   show (bif nmEq p.1 y then some p.2 else lookN y (putN x v r))=_
   rw [ih]
   by_cases h:y=x
   ·rw [if_pos h,if_pos h,nmEq_ne (h ▸ hz)]; rfl
   ·rw [if_neg h,if_neg h]
inductive NameAt (env:Env) (h:Heap) (x:PySem.Str) (v:Value):Prop
 | loc {m:PySem.Str → Option Value} (k:env.kindOf x=some .local) (n:h.Ns env.locals m) (e:m x=some v):NameAt env h x v
 | cell {c:Addr} (k:env.kindOf x=some .cell ∨ (env.kindOf x=some .free ∧ (x == ("__classdict__" : PySem.Str))=false)) (l:env.cells.lookup x=some c) (e:h.IsCell c (some v)):NameAt env h x v
theorem load_at {M:Model} {A:Around} {E:Value → Shared → Prop} {s:Shared} {env:Env} {x:PySem.Str} {v:Value} {Q:Value → Shared → Prop} (hk:env.scope.kind=.function) (n:NameAt env s.heap x v) (h:Q v s):wpAny M A (loadName env x) Q E s:=by
 cases n with
 | loc k n e=>exact wpAny_loadName_local hk k n e h
 | cell k l e=>exact k.elim (fun k=>wpAny_loadName_cell hk k l e h) fun k=>wpAny_loadName_free hk k.1 l e h k.2
theorem IsCell.keepX {X:Addr → Prop} {h h':Heap} {c:Addr} {v:Option Value} (x:h.IsCell c v) (k:Keep X h h') (n:¬ X c):h'.IsCell c v:=
 x.elim fun o q=>⟨o,k c o q.1 n,q.2⟩
theorem Ns.keepX {X:Addr → Prop} {h h':Heap} {a:Addr} {m:PySem.Str → Option Value} (x:h.Ns a m) (k:Keep X h h') (n:¬ X a):h'.Ns a m:=
 let ⟨o,es,ep,ho,r⟩:=x; ⟨o,es,ep,k a o ho n,r⟩
theorem NameAt.keep {env:Env} {h h':Heap} {x:PySem.Str} {v:Value} (n:NameAt env h x v) (k:Keep NoX h h'):NameAt env h' x v:=by
 cases n with
 | loc l n e=>exact .loc l (Ns.keepX n k id) e
 | cell l c e=>exact .cell l c (IsCell.keepX e k id)
inductive ItV (tg:Option Nat) (X:Addr → Prop) (h:Heap) (xs:List PV):Value → Prop
 | mk {a:Addr} {b:List Nat} {t:Tok} {k:Nat} {o:Obj} (ht:∀ c,tg=some c → c=a) (x:X a) (hb:∀ c ∈ b,c < 256) (g:h.get? a=some o) (oc:o.cls=.type "bytes_iterator") (od:o.data=.fields #[.bytes (b.map fun c=>c.toUInt8).toArray t,.int k 0])
  (e:xs=(b.drop k).map fun c=>PV.int (Int.ofNat c)):ItV tg X h xs (.ref a)
noncomputable def SlotOk (C:Cx) (X:Addr → Prop) (h:Heap) (s:Slot) (v:Value):Prop:=Slot.casesOn (motive:=fun zz=>Prop) s (fun d=>Rep C X h d v) (fun xs=>LV X h listO (Reps C X h xs) v) (fun tg xs=>ItV tg X h xs v) (fun fs=>C.me v ∧ IV C X h (RepF C X h fs) v)
inductive SelfA (h:Heap):Value → Addr → Prop
 | me {a:Addr}:SelfA h (.ref a) a
 | dict {a b:Addr} {o:Obj} (g:h.get? b=some o) (e:o.dict=some a):SelfA h (.ref b) a
noncomputable def Owns (h:Heap) (s:Slot) (v:Value) (a:Addr):Prop:=Slot.casesOn (motive:=fun zz=>Prop) s (fun zz=>False) (fun zz=>v=.ref a) (fun zz zz=>v=.ref a) (fun zz=>SelfA h v a)
section
variable {C:Cx} {X Y:Addr → Prop} {h h':Heap}
theorem SlotOk.mono (k:Fit X Y h h') {sl:Slot} {v:Value} (r:SlotOk C X h sl v) (f:∀ a,Owns h sl v a → Y a ∧ ∀ o,h.get? a=some o → h'.get? a=some o):SlotOk C Y h' sl v:=by
 cases sl with
 | fz d=>exact Rep.keep k d r
 | own xs=>
  cases r with | mk x g q=>exact ⟨(f _ rfl).1,(f _ rfl).2 _ g,Reps.keep k xs q⟩
 | iter tg xs=>
  cases r with | mk ht x hb g oc od e=>exact ⟨ht,(f _ rfl).1,hb,(f _ rfl).2 _ g,oc,od,e⟩
 | self fs=>
  cases r with | intro hm r=>cases r with | mk x x' ne g oc od on nd q=>
   have kd:=f _ (.dict g od)
   exact ⟨hm,(f _ .me).1,kd.1,ne,(f _ .me).2 _ g,oc,od,on,nd.at kd.2,RepF.keep k fs q⟩
theorem SlotOk.owned {sl:Slot} {v:Value} (r:SlotOk C X h sl v) (a:Addr) (w:Owns h sl v a):X a ∧ ∃ o,h.get? a=some o:=by
 cases sl with
 | fz d=>exact w.elim
 | own xs=>cases r with | mk x g q=>cases w; exact ⟨x,_,g⟩
 | iter tg xs=>cases r with | mk ht x hb g oc od e=>cases w; exact ⟨x,_,g⟩
 | self fs=>
  cases r with | intro hm r=>cases r with | mk x x' ne g oc od on nd q=>cases w with
   | me=>exact ⟨x,_,g⟩
   | dict g2 e=>
    obtain ⟨o2,_,_,g3,_⟩:=nd
    rw [g] at g2; cases g2; rw [od] at e; cases e
    exact ⟨x',_,g3⟩
theorem SlotOk.keep (k:Keep NoX h h') {sl:Slot} {v:Value} (r:SlotOk C X h sl v):SlotOk C X h' sl v:=
 r.mono (.nox k) fun a w=>⟨(r.owned a w).1,fun o e=>k a o e id⟩
theorem Owns.back {sl:Slot} {v:Value} (r:SlotOk C X h sl v) (k:∀ a,Owns h sl v a → ∀ o,h.get? a=some o → h'.get? a=some o) {a:Addr} (w:Owns h' sl v a):Owns h sl v a:=by
 cases sl with
 | self fs=>
  cases r with | intro hm r=>cases r with | mk x x' ne g oc od on nd q=>cases w with
   | me=>exact .me
   | dict g2 e=>
    rw [k _ .me _ g] at g2; cases g2
    exact .dict g e
 | _=>exact w
end
noncomputable def KindAt (env:Env) (x:PySem.Str) (k:NameKind):Prop:=NameKind.casesOn (motive:=fun zz=>Prop) k (env.kindOf x=some .local) (env.kindOf x=some .cell ∧ ∃ c,env.cells.lookup x=some c)
 ((env.kindOf x=some .cell ∨ (env.kindOf x=some .free ∧ (x == ("__classdict__" : PySem.Str))=false)) ∧ ∃ c,env.cells.lookup x=some c) True (env.kindOf x=some .globalImplicit)
noncomputable def KindOk (K:Ks) (env:Env):Prop:=∀ (x:Nm) (k:NameKind),kindN x K=some k → KindAt env (mkS x) k
noncomputable def Fra (env:Env) (a:Addr):Prop:=a=env.locals ∨ ∃ y,env.cells.lookup y=some a
structure Slots (C:Cx) (X B:Addr → Prop) (env:Env) (h:Heap) (σ:Sg) (V:Nm → Value):Prop where
 at_:∀ x sl,lookN x σ=some sl → NameAt env h (mkS x) (V x)
 ok:∀ x sl,lookN x σ=some sl → SlotOk C X h sl (V x)
 apart:∀ x y sl sl',x ≠ y → lookN x σ=some sl → lookN y σ=some sl' → ∀ a,Owns h sl (V x) a → ¬ Owns h sl' (V y) a
 fra:∀ x sl,lookN x σ=some sl → ∀ a,Owns h sl (V x) a → ¬ Fra env a
 noB:∀ x sl,lookN x σ=some sl → ∀ a,Owns h sl (V x) a → ¬ B a
structure EnvF (C:Cx) (K:Ks) (X B:Addr → Prop) (env:Env) (h:Heap) (σ:Sg):Prop where
 fn:env.scope.kind=.function
 glo:env.globals=C.gl
 bui:env.builtins=C.bi
 base:Keep NoX C.hb h
 newB:∀ a,X a → C.hb.get? a=none
 ns:∃ m,h.Ns env.locals m
 locX:X env.locals
 cellX:∀ x c,env.cells.lookup x=some c → X c ∧ c ≠ env.locals ∧ ∃ v,h.IsCell c v
 apart:∀ x y c,env.cells.lookup x=some c → env.cells.lookup y=some c → x=y
 kinds:KindOk K env
 bnd:∀ a,X a → ∃ o,h.get? a=some o
 bX:∀ a,B a → X a
 fB:∀ a,Fra env a → ¬ B a
 slots:∃ V:Nm → Value,Slots C X B env h σ V
noncomputable abbrev EnvOk (C:Cx) (K:Ks) (X:Addr → Prop) (env:Env) (h:Heap) (σ:Sg):Prop:=EnvF C K X NoX env h σ
section
variable {C:Cx} {K:Ks} {X B:Addr → Prop} {env:Env} {h h':Heap} {σ:Sg}
theorem Slots.keep {V:Nm → Value} (q:Slots C X B env h σ V) (k:Keep NoX h h'):Slots C X B env h' σ V:=
 have b:∀ {x sl a},lookN x σ=some sl → Owns h' sl (V x) a → Owns h sl (V x) a:=fun hx=>Owns.back (q.ok _ _ hx) fun b zz o hb=>k b o hb id
 ⟨fun x sl hx=>(q.at_ x sl hx).keep k,fun x sl hx=>(q.ok x sl hx).keep k,fun x y sl sl' ne hx hy a wa wb=>q.apart x y sl sl' ne hx hy a (b hx wa) (b hy wb),fun x sl hx a wa=>q.fra x sl hx a (b hx wa),fun x sl hx a wa=>q.noB x sl hx a (b hx wa)⟩
theorem EnvF.slot (e:EnvF C K X B env h σ) {x:Nm} {sl:Slot} (hx:lookN x σ=some sl):∃ v,NameAt env h (mkS x) v ∧ SlotOk C X h sl v:=
 e.slots.elim fun V q=>⟨V x,q.at_ x sl hx,q.ok x sl hx⟩
theorem EnvF.keep (e:EnvF C K X B env h σ) (k:Keep NoX h h'):EnvF C K X B env h' σ:=
 ⟨e.fn,e.glo,e.bui,e.base.trans k,e.newB,e.ns.elim fun m hm=>⟨m,Ns.keepX hm k id⟩,e.locX,
  fun x c hc=>⟨(e.cellX x c hc).1,(e.cellX x c hc).2.1,(e.cellX x c hc).2.2.elim fun v hv=>⟨v,IsCell.keepX hv k id⟩⟩,e.apart,e.kinds,fun a x=>(e.bnd a x).elim fun o q=>⟨o,k a o q id⟩,e.bX,e.fB,
  e.slots.elim fun V q=>⟨V,q.keep k⟩⟩
theorem EnvF.newX (e:EnvF C K X B env h σ):¬ X h.objs.size:=fun x=>(e.bnd _ x).elim fun o q=>Nat.lt_irrefl _ (Heap.lt_size q)
end
section
variable {α β:Type}
theorem obind {o:Option α} {f:α → Option β} {y:β} {G:Prop} (h:o.bind f=some y) (k:∀ x,o=some x → f x=some y → G):G:=by
 cases o with
 | none=>cases h
 | some x=>exact k x rfl h
@[elab_as_elim] theorem omap {o:Option α} {f:α → β} {y:β} {G:β → Prop} (h:o.map f=some y) (k:∀ x,o=some x → G (f x)):G y:=by
 cases o with
 | none=>cases h
 | some x=>cases h; exact k x rfl
theorem oif {c:Bool} {o:Option α} {y:α} {G:Prop} (h:(bif c then o else none)=some y) (k:c=true → o=some y → G):G:=by
 cases c with
 | true=>exact k rfl h
 | false=>cases h
theorem onif {c:Bool} {o:Option α} {y:α} {G:Prop} (h:(bif c then none else o)=some y) (k:c=false → o=some y → G):G:=by
 cases c with
 | true=>cases h
 | false=>exact k rfl h
@[elab_as_elim] theorem osome {x y:α} {G:α → Prop} (h:some x=some y) (k:G x):G y:=by cases h; exact k
theorem band {a b:Bool} {G:Prop} (h:(a && b)=true) (k:a=true → b=true → G):G:=by
 cases a with
 | true=>exact k rfl h
 | false=>cases h
theorem no {α:Type} {x:α} {G:Prop} (h:none=some x):G:=by cases h
theorem bnot {a:Bool} (h:(!a)=true):a=false:=by cases a <;> first | rfl | cases h
theorem dec {p:Prop} [Decidable p] (h:decide p=true):p:=of_decide_eq_true h
end
structure Th where
 prog:Program
 w:World
 C:Cx
 P:Around → Prop
noncomputable def Tr {α:Type} (M:Model) (A:Around) (t:Sem α) (s:Shared) (R:α → Shared → Prop):Prop:=∀ Q E,(∀ a s',R a s' → Q a s') → wpAny M A t Q E s
theorem Tr.of {α:Type} {M:Model} {A:Around} {t:Sem α} {s:Shared} {R:α → Shared → Prop} (h:∀ E,wpAny M A t R E s):Tr M A t s R:=fun Q E k=>wpAny_mono (h E) k fun zz zz e=>e
theorem wpAny_to {α:Type} {M:Model} {A:Around} {s:Shared} {m:Sem α} {Q Q':α → Shared → Prop} {E:Value → Shared → Prop} (h:wpAny M A m Q E s) (k:∀ a s',Q a s' → Q' a s'):wpAny M A m Q' E s:=wpAny_mono h k fun zz zz z=>z
structure Ext (X:Addr → Prop) (s s':Shared):Prop where
 keep:Keep X s.heap s'.heap
 os:s'.os=s.os
 gens:s'.gens=s.gens
theorem Ext.refl (X:Addr → Prop) (s:Shared):Ext X s s:=⟨Keep.refl _ _,rfl,rfl⟩
theorem Ext.trans {X:Addr → Prop} {s s' s'':Shared} (a:Ext X s s') (b:Ext X s' s''):Ext X s s'':=⟨a.keep.trans b.keep,b.os.trans a.os,b.gens.trans a.gens⟩
theorem Ext.mono {X Y:Addr → Prop} {s s':Shared} (a:Ext X s s') (i:∀ x,X x → Y x):Ext Y s s':=⟨a.keep.mono i,a.os,a.gens⟩
theorem Ext.any {X:Addr → Prop} {s s':Shared} (a:Ext NoX s s'):Ext X s s':=a.mono fun zz f=>f.elim
theorem Ext.tok (X:Addr → Prop) (s:Shared) (t:Tok):Ext X s { s with toks:=t }:=⟨Keep.refl _ _,rfl,rfl⟩
theorem Ext.pushed (X:Addr → Prop) (s:Shared) (o:Obj):Ext X s { s with heap:=s.heap.push o }:=⟨Keep.push _ _ _,rfl,rfl⟩
noncomputable def EVok (C:Cx) (X:Addr → Prop) (h:Heap) (d:EV) (v:Value):Prop:=EV.casesOn (motive:=fun zz=>Prop) d (fun d=>Rep C X h d v) (fun xs=>LV (fun zz=>True) h listO (Reps C X h xs) v)
structure ER (C:Cx) (X:Addr → Prop) (s:Shared) (d:EV) (v:Value) (s':Shared):Prop where
 x:Ext NoX s s'
 r:EVok C X s'.heap d v
structure VR {α:Type} (s:Shared) (b b':α) (s':Shared):Prop where
 x:Ext NoX s s'
 e:b'=b
section
variable {C:Cx} {X:Addr → Prop} {h h':Heap} {s s₁ s₂:Shared} {d d':EV} {v v':Value}
theorem EVok.keep (k:Keep NoX h h') (r:EVok C X h d v):EVok C X h' d v:=by
 cases d with
 | v d=>exact Rep.keep (.nox k) d r
 | h xs=>exact LV.map r (fun a o zz e=>⟨trivial,k a o e id⟩) fun l=>Reps.keep (.nox k) xs
theorem ER.to (q:ER C X s d v s₁) (q':ER C X s₁ d' v' s₂):ER C X s d' v' s₂:=⟨q.x.trans q'.x,q'.r⟩
theorem ER.pre (x:Ext NoX s s₁) (q':ER C X s₁ d' v' s₂):ER C X s d' v' s₂:=⟨x.trans q'.x,q'.r⟩
theorem ER.vr {α:Type} {b b':α} (q:ER C X s d v s₁) (q':VR s₁ b b' s₂):VR s b b' s₂:=⟨q.x.trans q'.x,q'.e⟩
theorem ER.on (q:ER C X s d v s₁) (q':ER C X s₁ d' v' s₂):EVok C X s₂.heap d v:=q.r.keep q'.x.keep
theorem EVok.of_slot {sl:Slot} (e:slotEV sl=some d) (r:SlotOk C X h sl v):EVok C X h d v:=by
 cases sl with
 | fz x=>cases e; exact r
 | own xs=>cases e; exact LV.map r (fun a o zz e=>⟨trivial,e⟩) fun l r=>r
 | iter tg xs=>cases e
 | self fs=>cases e
theorem list_read {xs:List PV} (hp:asL d.pv=some xs) (q:EVok C X h d v):LV (fun zz=>True) h listO (Reps C X h xs) v:=by
 cases d with
 | h ys=>exact Option.some.inj hp ▸ q
 | v d=>cases d <;> first | exact no hp | exact Option.some.inj hp ▸ LV.map q (fun a o zz e=>⟨trivial,e⟩) fun l r=>r
theorem str_read {x:List Nat} (hp:asS d.pv=some x) (q:EVok C X h d v):StrV x v:=by
 cases d with
 | h ys=>exact no hp
 | v d=>cases d <;> first | exact no hp | exact Option.some.inj hp ▸ q
theorem int_read {x:Int} (hp:asI d.pv=some x) (q:EVok C X h d v):IntV x v:=by
 cases d with
 | h ys=>exact no hp
 | v d=>cases d <;> first | exact no hp | exact Option.some.inj hp ▸ q
end
structure ECtx (T:Th) (G:Gl) (σ:Sg) (A:Around) (X:Addr → Prop) (env:Env) (s:Shared):Prop where
 pa:T.P A
 e:EnvOk T.C G.sc X env s.heap σ
theorem ECtx.ext {T:Th} {G:Gl} {σ:Sg} {A:Around} {X:Addr → Prop} {env:Env} {s s':Shared} (c:ECtx T G σ A X env s) (x:Ext NoX s s'):ECtx T G σ A X env s':=⟨c.pa,c.e.keep x.keep⟩
theorem ECtx.er {T:Th} {G:Gl} {σ:Sg} {A:Around} {X:Addr → Prop} {env:Env} {s s':Shared} {d:EV} {v:Value} (c:ECtx T G σ A X env s) (q:ER T.C X s d v s'):ECtx T G σ A X env s':=c.ext q.x
noncomputable def EClaim (T:Th) (G:Gl) (e:E) (σ:Sg) (d:EV):Prop:=
 ∀ A X env s,ECtx T G σ A X env s → Tr (model T.prog T.w) A (eval e.b env) s (ER T.C X s d)
noncomputable def ESound (T:Th) (G:Gl) (e:E):Prop:=∀ σ d,ev G e σ=some d → EClaim T G e σ d
section
variable {T:Th} {G:Gl} {σ:Sg}
theorem sConst {c:Const} {k:Nat} {p:Pos}:ESound T G (.const c k p):=fun σ d h=>omap h fun d h A X env s zz=>by
 cases c with
 | none=>exact osome h fun Q E q=>wpAny_Constant_none (q _ _ ⟨Ext.refl _ _,rfl⟩)
 | bool b=>exact osome h fun Q E q=>wpAny_Constant_bool (q _ _ ⟨Ext.refl _ _,rfl⟩)
 | int i=>exact osome h fun Q E q=>wpAny_Constant_int (q _ _ ⟨Ext.tok _ _ _,.mk _⟩)
 | str x=>exact osome h fun Q E q=>wpAny_Constant_str (q _ _ ⟨Ext.tok _ _ _,.mk _⟩)
 | _=>exact no h
theorem not_debug {x:Nm} (h:nmEq x n_debug=false):(mkS x == ("__debug__" : PySem.Str))=false:=
 Bool.eq_false_iff.mpr fun e=>Bool.false_ne_true (h.symm.trans (by rw [show x=n_debug from congrArg nm (eq_of_beq e)]; decide))
theorem sName {x:Nm} {p:Pos}:ESound T G (.name x p):=fun σ d h=>onif h fun hd h=>obind h fun sl hx h A X env s c Q E q=>by
 obtain ⟨v,n,r⟩:=c.e.slot hx
 exact wpAny_Name (load_at c.e.fn n (q v s ⟨Ext.refl _ _,EVok.of_slot h r⟩)) (not_debug hd)
end
section
variable {prog:Program} {w:World} {A:Around} {s:Shared} {C:Cx} {X:Addr → Prop} {Q:Value → Shared → Prop} {E:Value → Shared → Prop}
theorem intBits_lt {a:Int} {n:Nat} (h:a.natAbs.log2 < n):Builtin.Int.intBits a ≤ n:=by
 unfold Builtin.Int.intBits
 split
 ·exact Nat.zero_le _
 ·exact h
theorem mulOk {x y:Int} (h1:x.natAbs.log2 < 1000000) (h2:y.natAbs.log2 < 1000000):IntMulOk x y:=by
 have h3:=Nat.add_le_add (intBits_lt h1) (intBits_lt h2)
 have:bitsLine=134217728:=by decide
 unfold IntMulOk Builtin.Int.intTooBig
 simp only [Bool.and_eq_true,decide_eq_true_eq,not_and,gt_iff_lt]
 intro _ _
 omega
theorem ne_of_beq_false {y:Int} (h:(y == 0)=false):y ≠ 0:=fun e=>Bool.false_ne_true (h.symm.trans (beq_iff_eq.mpr e))
theorem int_bin {op:Operator} {x y r:Int} {t u:Tok} (h:intBin op x y=some r):Tr (model prog w) A (binaryOp op (.int x t) (.int y u)) s (ER C X s (.v (.int r))):=by
 have done:∀ r,ER C X s (.v (.int r)) (.int r s.toks) { s with toks:=s.toks + 1 }:=fun r=>⟨Ext.tok _ _ _,.mk _⟩
 cases op with
 | Add=>exact osome h fun Q E q=>PyProof.Rows.add_int (q _ _ (done _))
 | Sub=>exact osome h fun Q E q=>PyProof.Rows.sub_int (q _ _ (done _))
 | Mult=>exact oif h fun c h=>band c fun c1 c2=>osome h fun Q E q=>PyProof.Rows.mul_int (q _ _ (done _)) (mulOk (dec c1) (dec c2))
 | FloorDiv=>exact oif h fun c h=>band c fun c1 c2=>osome h fun Q E q=>PyProof.Rows.floordiv_int (ne_of_beq_false (bnot c1)) (q _ _ (done _)) (Or.inl (PyProof.noPylong_of_log2 (dec c2)))
 | Mod=>exact onif h fun c h=>osome h fun Q E q=>PyProof.Rows.mod_int (ne_of_beq_false c) (q _ _ (done _))
 | LShift=>exact oif h fun c h=>band c fun c c3=>band c fun c1 c2=>osome h fun Q E q=>PyProof.Rows.lshift_int_small (dec c1) (dec c2) (dec c3) (q _ _ (done _))
 | RShift=>exact oif h fun c h=>osome h fun Q E q=>PyProof.Rows.rshift_int (dec c) (q _ _ (done _))
 | BitAnd=>exact osome h fun Q E q=>PyProof.Rows.and_int (q _ _ (done _))
 | BitOr=>exact osome h fun Q E q=>PyProof.Rows.or_int (q _ _ (done _))
 | BitXor=>exact osome h fun Q E q=>PyProof.Rows.xor_int (q _ _ (done _))
 | _=>exact no h
theorem smallN_le {n:Nat} (h:smallN n=true):n ≤ sizeLine:=dec h
theorem list_done {xs:List PV} {its:List Value} (hX:¬ X s.heap.objs.size) (q:Reps C X s.heap xs its):ER C X s (.v (.list xs)) (.ref s.heap.objs.size) { s with heap:=s.heap.push (listO its 0) }:=
 ⟨Ext.pushed _ _ _,hX,Heap.get?_push_size _ rfl,Reps.keep (.nox (Keep.push _ _ _)) xs q⟩
theorem none_size {h:Heap} {a:Addr} (e:h.objs.size ≤ a):h.get? a=none:=by
 cases q:h.get? a with
 | none=>rfl
 | some o=>exact absurd (Nat.lt_of_lt_of_le (Heap.lt_size q) e) (Nat.lt_irrefl _)
inductive FreshL (C:Cx) (X:Addr → Prop) (s:Shared) (xs:List PV) (s':Shared):Value → Prop
 | mk {a:Addr} {its:List Value} {n:Nat} (nw:s.heap.get? a=none) (g:s'.heap.get? a=some (listO its n)) (r:Reps C (fun b=>X b ∨ b=a) s'.heap xs its):FreshL C X s xs s' (.ref a)
structure FR (C:Cx) (X:Addr → Prop) (s:Shared) (d:EV) (v:Value) (s':Shared):Prop where
 e:ER C X s d v s'
 f:∀ xs,d=.v (.list xs) → FreshL C X s xs s' v
theorem Ext.old {s s':Shared} (x:Ext NoX s s') {a:Addr} (n:s'.heap.get? a=none):s.heap.get? a=none:=by
 cases g:s.heap.get? a with
 | none=>rfl
 | some o=>exact absurd ((x.keep a o g id).symm.trans n) nofun
theorem FR.pre {s₁ s':Shared} {d:EV} {v:Value} (x:Ext NoX s s₁) (q:FR C X s₁ d v s'):FR C X s d v s':=⟨.pre x q.e,fun xs h=>by cases q.f xs h with | mk nw g r=>exact ⟨x.old nw,g,r⟩⟩
theorem list_doneF {xs:List PV} {its:List Value} (hX:¬ X s.heap.objs.size) (q:Reps C X s.heap xs its):FR C X s (.v (.list xs)) (.ref s.heap.objs.size) { s with heap:=s.heap.push (listO its 0) }:=
 ⟨list_done hX q,fun ys h=>by cases h; exact ⟨none_size (Nat.le_refl _),Heap.get?_push_size _ rfl,Reps.keep ⟨Keep.push _ _ _,fun a o g n h=>h.elim n fun e=>Nat.lt_irrefl _ (e ▸ Heap.lt_size g)⟩ xs q⟩⟩
theorem reps_rep {xs:List PV} {its:List Value} (q:Reps C X s.heap xs its):∀ n:Nat,Reps C X s.heap (rep n xs) (rep n its)
 | 0=>rfl
 | n + 1=>Reps.append (reps_rep q n) q
theorem rep_foldl {α:Type} (l:List α):∀ (n:Nat) (acc:Array α),(List.foldl (fun x1 x2=>x1 ++ x2) acc (List.replicate n l.toArray))=(acc.toList ++ rep n l).toArray
 | 0,acc=>by rw [rep,List.append_nil]; rfl
 | n + 1,acc=>by rw [List.replicate_succ,List.foldl_cons,rep_foldl l n,Array.toList_append,rep,List.append_assoc]
theorem rep_nil {α:Type}:∀ n:Nat,rep n ([]:List α)=[]
 | 0=>rfl
 | n + 1=>rep_nil n
theorem rep_length {α:Type} (l:List α):∀ n:Nat,(rep n l).length=n * l.length
 | 0=>(Nat.zero_mul _).symm
 | n + 1=>by rw [rep,List.length_append,rep_length l n,Nat.succ_mul,Nat.add_comm]
end
section
variable {α:Type} {x:List α} {n:Int} {y:List α}
structure RepOk (x:List α) (n:Int):Prop where
 hi:n < 65536
 z:x.length * n.toNat ≤ 16777216
 lo:-65536 < n
theorem repN_some (h:repN x n=some y):y=rep n.toNat x ∧ RepOk x n:=oif h fun c h=>band c fun c c3=>band c fun c1 c2=>⟨(Option.some.inj h).symm,dec c1,dec c2,dec c3⟩
theorem catN_some {z:List α} (h:catN x y=some z):z=x ++ y ∧ x.length + y.length ≤ 16777216:=oif h fun c h=>⟨(Option.some.inj h).symm,dec c⟩
theorem RepOk.hix (r:RepOk x n):n ≤ 2 ^ 63 - 1 ∧ -(2 ^ 63) ≤ n:=⟨by have:=r.hi; exact Int.le_of_lt (Int.lt_of_lt_of_le this (by decide)),by have:=r.lo; exact Int.le_trans (by decide) this⟩
end
section
variable {prog:Program} {w:World} {A:Around} {s:Shared} {C:Cx} {X:Addr → Prop}
theorem rep_arr {α:Type} (l:List α) (n:Nat):(List.foldl (fun x1 x2=>x1 ++ x2) #[] (List.replicate (if l.toArray.isEmpty=true then 0 else n) l.toArray))=(rep n l).toArray:=by
 rw [rep_foldl]
 cases l with
 | nil=>rw [rep_nil,rep_nil]; rfl
 | cons a l=>rfl
theorem list_mul {a:Addr} {its:List Value} {n:Nat} {x:Int} {u:Tok} {E:Value → Shared → Prop} {Q:Value → Shared → Prop} (ha:s.heap.get? a=some (listO its n)) (r:RepOk its x)
  (h:Q (.ref s.heap.objs.size) { s with heap:=s.heap.push (listO (rep x.toNat its) 0) }):wpAny (model prog w) A (binaryOp .Mult (.ref a) (.int x u)) Q E s:=by
 have h1:=r.hix
 have h2:=r.z
 refine wpAny_binaryOp_repeat_ref (T := "list") (U := "int") (by decide) ⟨_,ha,rfl⟩ (fun s'=>typeIs_int s' x u) noFill_list_mul F.fills_int_mul F.slot_int_rmul repeat_list F.slot_int_index.lookup
  (call_meets F.slot_int_rmul (typeIs_int s x u) F.entry_int_rmul (F.args_int_rmul_2 _ _) (int___rmul___int_list x u a its.toArray n)
   ⟨ha,rfl,⟨_,ha,rfl⟩,call_meets F.slot_list_mul ⟨_,ha,rfl⟩ F.entry_list_mul (F.args_list_mul_2 _ _)
    (AutoListH.list___mul___list_int_3 a its.toArray n x u ?_ ?_ ?_) ⟨ha,rep_arr its x.toNat ▸ h⟩⟩)
 ·simp [Builtin.List.listFitsIndex]; omega
 ·simp; exact Nat.le_trans h2 (by decide)
 ·simp [Builtin.List.listTooLong,sizeLine]; exact h2
theorem str_mul {x:List Nat} {t u:Tok} {n:Int} (r:RepOk x n):Tr (model prog w) A (binaryOp .Mult (strV x t) (.int n u)) s (ER C X s (.v (.str (rep n.toNat x)))):=fun Q E q=>by
 have h1:=r.hix
 have h2:=r.z
 have done:∀ (y:List Nat) (t':Tok) (tk:Nat),y=rep n.toNat x → Q (strV y t') { s with toks:=tk }:=fun y t' tk e=>q _ _ ⟨Ext.tok _ _ _,e ▸ .mk t'⟩
 refine PySem.P.mul_str (x:=⟨x.toArray⟩) (n:=n) ?_ ?_ ?_ ?_
 ·simp; omega
 ·intro g1 g2
  have hx:x.length * 1 ≤ x.length * n.toNat:=Nat.mul_le_mul_left _ (by omega)
  refine Int.not_lt.mpr (Int.le_trans (Int.ofNat_le.mpr (Nat.le_trans (Nat.le_trans (Nat.le_of_eq (Nat.mul_one _).symm) hx) h2)) ?_)
  refine (Int.le_ediv_iff_mul_le (by exact Int.not_lt.mp g1)).mpr (Int.le_trans (Int.mul_le_mul_of_nonneg_left (Int.le_of_lt r.hi) (by decide)) (by decide))
 ·intro g1 g2
  exact short24 h2
 ·split
  ·rename_i g
   exact ⟨by decide,done [] _ _ (by rw [show n.toNat=0 by omega]; rfl)⟩
  ·split
   ·rename_i g g'
    refine done x t s.toks ?_
    cases Bool.or_eq_true_iff.mp g' with
    | inl g'=>rw [eq_of_beq g']; exact (List.append_nil _).symm
    | inr g'=>rw [show x=[] from List.eq_nil_of_length_eq_zero (eq_of_beq g'),rep_nil]
   ·rw [rep_foldl]
    exact ⟨(by show (rep n.toNat x).length ≤ sizeLine; rw [rep_length,Nat.mul_comm]; exact h2),done _ _ _ rfl⟩
theorem binP_ok {op:Operator} {a b:EV} {d:PV} {x y:Value} (hX:¬ X s.heap.objs.size) (h:binP op a.pv b.pv=some d) (qa:EVok C X s.heap a x) (qb:EVok C X s.heap b y) :
  Tr (model prog w) A (binaryOp op x y) s (FR C X s (.v d)):=by
 generalize hp:a.pv=p at h
 cases p with
 | int i=>
  exact obind h fun j hj h=>omap h fun r hr=>by
   cases int_read (congrArg asI hp) qa
   cases int_read hj qb
   exact fun Q E k=>int_bin hr Q E fun v s' q=>k v s' ⟨q,nofun⟩
 | str z=>cases op with
  | Add=>
   exact obind h fun j hj h=>omap h fun l hl Q E q=>by
    cases str_read (x:=z) (congrArg asS hp) qa
    cases str_read hj qb
    cases (catN_some hl).1
    exact PyProof.Rows.add_str (fun t' tk=>q _ _ ⟨⟨Ext.tok _ _ _,(by show StrV (z ++ j) (.str ⟨z.toArray ++ j.toArray⟩ t'); rw [List.append_toArray]; exact .mk t')⟩,nofun⟩) (catN_some hl).2
  | Mult=>
   exact obind h fun j hj h=>omap h fun l hl=>by
    cases str_read (x:=z) (congrArg asS hp) qa
    cases int_read hj qb
    cases (repN_some hl).1
    exact fun Q E k=>str_mul (repN_some hl).2 Q E fun v s' q=>k v s' ⟨q,nofun⟩
  | _=>exact no h
 | list z=>cases op with
  | Add=>
   exact obind h fun j hj h=>omap h fun l hl Q E q=>by
    cases list_read (xs:=z) (congrArg asL hp) qa with | mk _ ga ra=>
    cases list_read hj qb with | mk _ gb rb=>
    cases (catN_some hl).1
    refine PySem.P.add_list (items:=_) (items2:=_) ga gb ?_ ?_
    ·rw [List.append_toArray]
     exact q _ _ (list_doneF hX (Reps.append rb ra))
    ·exact Nat.le_trans (Nat.le_of_eq (by rw [ra.length,rb.length]; rfl)) (catN_some hl).2
  | Mult=>
   exact obind h fun j hj h=>omap h fun l hl Q E q=>by
    cases list_read (xs:=z) (congrArg asL hp) qa with | mk _ ga ra=>
    cases int_read hj qb
    cases (repN_some hl).1
    exact list_mul ga ⟨(repN_some hl).2.hi,ra.length ▸ (repN_some hl).2.z,(repN_some hl).2.lo⟩ (q _ _ (list_doneF hX (reps_rep ra j.toNat)))
  | _=>exact no h
 | _=>exact no h
end
noncomputable def FSound (T:Th) (G:Gl) (e:E):Prop:=∀ σ d,ev G e σ=some d → ∀ A X env s,ECtx T G σ A X env s → Tr (model T.prog T.w) A (eval e.b env) s (FR T.C X s d)
theorem FSound.e {T:Th} {G:Gl} {e:E} (h:FSound T G e):ESound T G e:=fun σ d hd A X env s c Q E k=>h σ d hd A X env s c Q E fun v s' q=>k v s' q.e
theorem sBin {T:Th} {G:Gl} {l r:E} {op:Operator} {p:Pos} (hl:ESound T G l) (hr:ESound T G r):FSound T G (.bin l op r p):=
 fun σ d h=>obind h fun a ha h=>obind h fun b hb h=>omap (G:=fun d=>∀ A X env s,ECtx T G σ A X env s → Tr (model T.prog T.w) A (eval (E.bin l op r p).b env) s (FR T.C X s d)) h fun x hx A X env s c Q E k=>wpAny_BinOp (hl σ a ha A X env s c _ E fun v s₁ q=>hr σ b hb A X env s₁ (c.er q) _ E fun u s₂ q'=>binP_ok (c.er (q.to q')).e.newX hx (q.on q') q'.r _ E fun v s₃ q2=>k v s₃ (.pre (q.x.trans q'.x) q2))
inductive Each (P:E → Prop):List E → Prop
 | nil:Each P []
 | cons {e:E} {r:List E} (p:P e) (q:Each P r):Each P (e :: r)
theorem valO_some {o:Option EV} {d:PV} (h:valO o=some d):o=some (.v d):=obind h fun x hx h=>by
 cases x with
 | v d'=>rw [hx,Option.some.inj h]
 | h l=>exact no h
noncomputable def allE:List (Option EV) → Option (List EV)
 | []=>some []
 | o :: r=>o.bind fun d=>(allE r).map (d :: ·)
theorem each_all:∀ {os:List (Option EV)} {l:List PV},eachV os=some l → allE os=some (l.map .v)
 | [],_,h=>osome h rfl
 | o :: r,_,h=>obind h fun d hd h=>omap h fun l hl=>by
  show o.bind _=_
  rw [valO_some hd]
  show (allE r).map _=_
  rw [each_all hl]
  rfl
theorem each_pv:∀ os:List (Option EV),eachPV os=(allE os).map (·.map EV.pv)
 | []=>rfl
 | none :: r=>rfl
 | some d :: r=>by
  show (eachPV r).map _=((allE r).map _).map _
  rw [each_pv r]
  cases allE r <;> rfl
noncomputable def EVs (C:Cx) (X:Addr → Prop) (h:Heap):List EV → List Value → Prop
 | []=>fun vs=>vs=[]
 | d :: r=>Cons1 (EVok C X h d) (EVs C X h r)
structure ERs (C:Cx) (X:Addr → Prop) (s:Shared) (ds:List EV) (vs:List Value) (s':Shared):Prop where
 x:Ext NoX s s'
 r:EVs C X s'.heap ds vs
theorem EVs.reps {C:Cx} {X:Addr → Prop} {h:Heap}:∀ {l:List PV} {vs:List Value},EVs C X h (l.map .v) vs → Reps C X h l vs
 | [],_,r=>r
 | d :: l,_,⟨q,q'⟩=>⟨q,EVs.reps (l:=l) q'⟩
theorem not_starred {G:Gl} {e:E} {σ:Sg} {d:EV} (h:ev G e σ=some d) (rest:List Expr) (env:Env):starEach (e.b :: rest) env=(false,eval e.b env) :: starEach rest env:=by
 cases e <;> first | rfl | exact no h
section
variable {T:Th} {G:Gl} {σ:Sg} {A:Around} {X:Addr → Prop} {env:Env}
theorem items_ok {pos:Pos} {es:List E} (hs:Each (ESound T G) es):∀ {ds:List EV},allE (evs G es σ)=some ds → ∀ {s:Shared},ECtx T G σ A X env s →
  Tr (model T.prog T.w) A (spliced (backTo pos (starEach (bs es) env))) s (ERs T.C X s ds):=by
 induction hs with
 | nil=>exact fun h s c=>osome h fun Q E k=>wpAny_items_nil (k _ _ ⟨Ext.refl _ _,rfl⟩)
 | cons p q ih=>exact fun h s c=>obind h fun d hd h=>omap h fun m hm Q E k=>
   wpAny_items_cons (p σ d hd A X env s c _ E fun v s₁ q1=>ih hm (c.er q1) _ E fun vs s₂ q2=>k _ _ ⟨q1.x.trans q2.x,q1.r.keep q2.x.keep,q2.r⟩) (not_starred hd _ env)
theorem tuple_done {C:Cx} {s:Shared} {xs:List PV} {its:List Value} (hX:¬ X s.heap.objs.size) (q:Reps C X s.heap xs its):ER C X s (.v (.tuple xs)) (.ref s.heap.objs.size) { s with heap:=s.heap.push (tupO its 0) }:=
 ⟨Ext.pushed _ _ _,hX,Heap.get?_push_size _ rfl,Reps.keep (.nox (Keep.push _ _ _)) xs q⟩
theorem sz_len {C:Cx} {h:Heap} {l:List PV} {vs:List Value} (c:smallN l.length=true) (r:Reps C X h l vs):vs.length ≤ sizeLine:=r.length ▸ smallN_le c
theorem sList {es:List E} {p:Pos} (hs:Each (ESound T G) es):FSound T G (.list es p):=fun σ d h=>obind h fun l hl h=>oif h fun z h=>osome (G:=fun d=>∀ A X env s,ECtx T G σ A X env s → Tr (model T.prog T.w) A (eval (E.list es p).b env) s (FR T.C X s d)) h fun A X env s c Q E k=>
 wpAny_List (items_ok hs (each_all hl) c _ E fun vs s₁ q=>⟨sz_len z q.r.reps,k _ _ (.pre q.x (list_doneF (c.ext q.x).e.newX q.r.reps))⟩)
theorem sTuple {es:List E} {n:Nat} {p:Pos} (hs:Each (ESound T G) es):ESound T G (.tup es n p):=fun σ d h=>obind h fun l hl h=>oif h fun z h=>osome h fun A X env s c Q E k=>
 wpAny_Tuple (items_ok hs (each_all hl) c _ E fun vs s₁ q=>⟨sz_len z q.r.reps,k _ _ (.pre q.x (tuple_done (c.ext q.x).e.newX q.r.reps))⟩)
theorem pv_read {C:Cx} {h:Heap} {d:EV} {v:Value} (x:PV) (hp:d.pv=x) (r:EVok C X h d v) (n:∀ l,x ≠ .list l):Rep C X h x v:=by
 cases d with
 | v d=>exact hp ▸ r
 | h l=>exact absurd hp.symm (n l)
theorem truth_ok {C:Cx} {s:Shared} {d:EV} {v:Value} {b:Bool} (h:truthP d.pv=some b) (q:EVok C X s.heap d v):Tr (model T.prog T.w) A (truthy v) s (VR s b):=by
 generalize hp:d.pv=p at h
 cases p with
 | none=>
  cases pv_read _ hp q (fun zz=>nofun)
  exact osome h fun Q E k=>fun zz zz zz=>k _ _ ⟨Ext.refl _ _,rfl⟩
 | bool c=>
  cases pv_read _ hp q (fun zz=>nofun)
  exact osome h fun Q E k=>wpAny_truthy_bool (k _ _ ⟨Ext.refl _ _,rfl⟩)
 | int i=>
  cases int_read (congrArg asI hp) q
  exact osome h fun Q E k=>PySem.P.truthy_int (k _ _ ⟨Ext.refl _ _,rfl⟩)
 | _=>exact no h
noncomputable def TClaim (T:Th) (G:Gl) (e:E) (σ:Sg) (b:Bool):Prop:=
 ∀ A X env s,ECtx T G σ A X env s → Tr (model T.prog T.w) A (isTrue e.b env (eval e.b env)) s (VR s b)
noncomputable def TSound (T:Th) (G:Gl) (e:E):Prop:=∀ σ b,tr G e σ (ev G e σ)=some b → TClaim T G e σ b
theorem sIf {t a b:E} {p:Pos} (ht:TSound T G t) (ha:ESound T G a) (hb:ESound T G b):ESound T G (.ite t a b p):=fun σ d h=>obind h fun c hc h A X env s x Q E k=>
 wpAny_IfExp (ht σ c hc A X env s x _ E fun b' s₁ q=>by
  cases q.e
  cases c with
  | true=>exact ha σ d h A X env s₁ (x.ext q.x) _ E fun v s₂ q2=>k v s₂ (.pre q.x q2)
  | false=>exact hb σ d h A X env s₁ (x.ext q.x) _ E fun v s₂ q2=>k v s₂ (.pre q.x q2))
theorem sNot {x:E} {p:Pos} (hx:ESound T G x):ESound T G (.not x p):=fun σ d h=>obind h fun y hy h=>omap h fun b hb A X env s c Q E k=>
 wpAny_UnaryOp (hx σ y hy A X env s c _ E fun v s₁ q=>not_value (truth_ok hb q.r _ E fun b' s₂ q2=>k _ _ ⟨q.x.trans q2.x,congrArg (fun b=>Value.bool !b) q2.e⟩))
theorem sNeg {x:E} {p:Pos} (hx:ESound T G x):ESound T G (.neg x p):=fun σ d h=>omap h fun i hi=>obind hi fun y hy hi A X env s c Q E k=>
 wpAny_UnaryOp (hx σ _ (valO_some hy) A X env s c _ E fun v s₁ q=>by
  cases int_read (d:=.v y) hi q.r
  exact PySem.P.neg_int (k _ _ ⟨q.x.trans (Ext.tok _ _ _),.mk _⟩))
theorem tNot {x:E} {p:Pos} (hx:TSound T G x):TSound T G (.not x p):=fun σ b h=>omap h fun c hc A X env s e Q E k=>
 wpAny_isTrue_Not (hx σ c hc A X env s e _ E fun b' s₁ q=>k _ _ ⟨q.x,congrArg (!·) q.e⟩)
theorem tsAnd {es:List E} (hs:Each (TSound T G) es):∀ {b:Bool},trs G .And es σ=some b → ∀ {s:Shared},ECtx T G σ A X env s →
  Tr (model T.prog T.w) A (allTrue .And (bs es) env) s (VR s b):=by
 induction hs with
 | nil=>exact fun h s c=>osome h fun Q E k=>wpAny_allTrue_And_nil (k _ _ ⟨Ext.refl _ _,rfl⟩)
 | cons p q ih=>exact fun h s c=>obind h fun t ht h Q E k=>
   wpAny_allTrue_And_cons (p σ t ht A X env s c _ E fun b' s₁ q1=>by
    cases q1.e
    cases t with
    | false=>exact k _ _ ⟨q1.x,Option.some.inj h⟩
    | true=>exact ih h (c.ext q1.x) _ E fun b' s₂ q2=>k _ _ ⟨q1.x.trans q2.x,q2.e⟩)
theorem tsOr {es:List E} (hs:Each (TSound T G) es):∀ {b:Bool},trs G .Or es σ=some b → ∀ {s:Shared},ECtx T G σ A X env s →
  Tr (model T.prog T.w) A (allTrue .Or (bs es) env) s (VR s b):=by
 induction hs with
 | nil=>exact fun h s c=>osome h fun Q E k=>wpAny_allTrue_Or_nil (k _ _ ⟨Ext.refl _ _,rfl⟩)
 | cons p q ih=>exact fun h s c=>obind h fun t ht h Q E k=>
   wpAny_allTrue_Or_cons (p σ t ht A X env s c _ E fun b' s₁ q1=>by
    cases q1.e
    cases t with
    | true=>exact k _ _ ⟨q1.x,Option.some.inj h⟩
    | false=>exact ih h (c.ext q1.x) _ E fun b' s₂ q2=>k _ _ ⟨q1.x.trans q2.x,q2.e⟩)
theorem tBool {op:BoolOp} {es:List E} {p:Pos} (hs:Each (TSound T G) es):TSound T G (.bool op es p):=fun σ b h A X env s c Q E k=>by
 cases op with
 | And=>exact wpAny_isTrue_BoolOp (tsAnd hs h c Q E k)
 | Or=>exact wpAny_isTrue_BoolOp (tsOr hs h c Q E k)
end
noncomputable def CmpOk (T:Th):Prop:=
 ∀ op a b r A X s x y,T.P A → cmpP op a.pv b.pv=some r → EVok T.C X s.heap a x → EVok T.C X s.heap b y → Tr (model T.prog T.w) A (compareOp op x y) s (VR s (Value.bool r))
theorem VR.trans {α β:Type} {s s₁ s₂:Shared} {c c':β} {b b':α} (q:VR s c c' s₁) (q':VR s₁ b b' s₂):VR s b b' s₂:=⟨q.x.trans q'.x,q'.e⟩
theorem truthy_is {M:Model} {A:Around} {s:Shared} {Q:Bool → Shared → Prop} {E:Value → Shared → Prop} {v:Value} {t:Bool} (e:v=.bool t) (k:Q t s):wpAny M A (truthy v) Q E s:=by
 subst e
 exact wpAny_truthy_bool k
section
variable {T:Th} {G:Gl} {σ:Sg} {A:Around} {X:Addr → Prop} {env:Env}
theorem chainV (hc:CmpOk T) {pos:Pos} {es:List E} (hs:Each (ESound T G) es):∀ {ops:List CmpOp},ops.length=es.length → ∀ {a:EV} {r:Bool},chainP a.pv ops (evs G es σ)=some r →
  ∀ {s:Shared} {x:Value},ECtx T G σ A X env s → EVok T.C X s.heap a x → Tr (model T.prog T.w) A (compareChain pos x ops (evalEach (bs es) env)) s (VR s (Value.bool r)):=by
 induction hs with
 | nil=>exact fun l a r h=>by cases List.eq_nil_of_length_eq_zero l; exact no h
 | cons p ps ih=>
  intro ops l
  cases ops with
  | nil=>cases l
  | cons op ops=>
   exact fun h s x c qa=>obind h fun b hb h=>obind h fun t ht h=>by
    cases ps with
    | nil=>cases ops with
     | nil=>exact osome h fun Q E k=>chain_last (p σ b hb A X env s c _ E fun v s₁ q=>hc op _ b t A X s₁ x v c.pa ht (qa.keep q.x.keep) q.r _ E fun v' s₂ q2=>k _ _ (q.vr q2))
     | cons op' ops=>cases l
    | cons p' ps=>cases ops with
     | nil=>cases l
     | cons op' ops=>exact fun Q E k=>chain_link (p σ b hb A X env s c _ E fun v s₁ q=>hc op _ b t A X s₁ x v c.pa ht (qa.keep q.x.keep) q.r _ E fun v' s₂ q2=>truthy_is q2.e (by
       cases t with
       | true=>exact ih (Nat.succ.inj l) h ((c.er q).ext q2.x) (q.r.keep q2.x.keep) _ E fun v s₃ q3=>k _ _ (q.vr (q2.trans q3))
       | false=>exact k _ _ ⟨q.x.trans q2.x,q2.e.trans (congrArg Value.bool (Option.some.inj h))⟩))
theorem chainT (hc:CmpOk T) {pos:Pos} {es:List E} (hs:Each (ESound T G) es):∀ {ops:List CmpOp},ops.length=es.length → ∀ {a:EV} {r:Bool},chainP a.pv ops (evs G es σ)=some r →
  ∀ {s:Shared} {x:Value},ECtx T G σ A X env s → EVok T.C X s.heap a x → Tr (model T.prog T.w) A (testChain pos x ops (evalEach (bs es) env)) s (VR s r):=by
 induction hs with
 | nil=>exact fun l a r h=>by cases List.eq_nil_of_length_eq_zero l; exact no h
 | cons p ps ih=>
  intro ops l
  cases ops with
  | nil=>cases l
  | cons op ops=>
   exact fun h s x c qa=>obind h fun b hb h=>obind h fun t ht h=>by
    cases ps with
    | nil=>cases ops with
     | nil=>exact osome h fun Q E k=>test_last (p σ b hb A X env s c _ E fun v s₁ q=>hc op _ b t A X s₁ x v c.pa ht (qa.keep q.x.keep) q.r _ E fun v' s₂ q2=>truthy_is q2.e (k _ _ ⟨q.x.trans q2.x,rfl⟩))
     | cons op' ops=>cases l
    | cons p' ps=>cases ops with
     | nil=>cases l
     | cons op' ops=>exact fun Q E k=>test_link (p σ b hb A X env s c _ E fun v s₁ q=>hc op _ b t A X s₁ x v c.pa ht (qa.keep q.x.keep) q.r _ E fun v' s₂ q2=>truthy_is q2.e (by
       cases t with
       | true=>exact ih (Nat.succ.inj l) h ((c.er q).ext q2.x) (q.r.keep q2.x.keep) _ E fun v s₃ q3=>k _ _ (q.vr (q2.trans q3))
       | false=>exact k _ _ ⟨q.x.trans q2.x,Option.some.inj h⟩))
theorem marks_ok {l:E} {ops:List CmpOp} {cs:List E} {pos:Pos} (h:lastMarks ops (bs cs)=false):eval (.Compare l.b ops (bs cs) pos) env=(do compareChain pos (← eval l.b env) ops (evalEach (bs cs) env)):=by
 show (do compareChain pos (← eval l.b env) ops (markedEach ops (bs cs) (evalEach (bs cs) env)))=_
 rw [markedEach_of_false _ _ _ h]
theorem sCmp (hc:CmpOk T) {l:E} {ops:List CmpOp} {cs:List E} {p:Pos} (hl:ESound T G l) (hs:Each (ESound T G) cs):ESound T G (.cmp l ops cs p):=fun σ d h=>oif h fun g h=>band g fun g1 g2=>obind h fun a ha h=>omap h fun r hr A X env s c Q E k=>by
 show wpAny _ _ (eval (.Compare l.b ops (bs cs) p) env) Q E s
 rw [marks_ok (bnot g1)]
 exact wpAny_bind (hl σ a ha A X env s c _ E fun v s₁ q=>chainV hc hs (eq_of_beq g2) hr (c.er q) q.r _ E fun v' s₂ q2=>k _ _ ⟨q.x.trans q2.x,q2.e⟩)
theorem tCmp (hc:CmpOk T) {l:E} {ops:List CmpOp} {cs:List E} {p:Pos} (hl:ESound T G l) (hs:Each (ESound T G) cs):TSound T G (.cmp l ops cs p):=fun σ b h=>obind h fun d hd h=>oif hd fun g hd=>band g fun g1 g2=>obind hd fun a ha hd A X env s c Q E k=>by
 have hr:chainP a.pv ops (evs G cs σ)=some b:=omap (G:=fun (d:EV)=>truthP d.pv=some b → chainP a.pv ops (evs G cs σ)=some b) hd (fun r hr h=>hr.trans h) h
 show wpAny _ _ (do testChain p (← eval l.b env) ops (markedEach ops (bs cs) (evalEach (bs cs) env))) Q E s
 rw [markedEach_of_false _ _ _ (bnot g1)]
 exact wpAny_bind (hl σ a ha A X env s c _ E fun v s₁ q=>chainT hc hs (eq_of_beq g2) hr (c.er q) q.r _ E fun v' s₂ q2=>k _ _ ⟨q.x.trans q2.x,q2.e⟩)
end
theorem str_beq (a b:List Nat):((⟨a.toArray⟩:PySem.Str) == ⟨b.toArray⟩)=nmEq a b:=by
 cases h:nmEq a b with
 | true=>rw [nmEq_of h]; exact beq_self_eq_true _
 | false=>exact beq_eq_false_iff_ne.mpr fun e=>Bool.false_ne_true (h.symm.trans (by rw [show a=b from congrArg nm e]; exact nmEq_self b))
mutual
theorem eqD_eqv:∀ a b:PV,PyData.eqv (toD a) (toD b)=eqD a b
 | .none,b=>PV.casesOn (motive_1:=fun b=>PyData.eqv (toD .none) (toD b)=eqD .none b) b rfl (fun zz=>rfl) (fun zz=>rfl) (fun zz=>rfl) (fun zz=>rfl) (fun zz=>rfl) (fun zz=>rfl) (fun zz=>rfl)
 | .bool x,b=>PV.casesOn (motive_1:=fun b=>PyData.eqv (toD (.bool x)) (toD b)=eqD (.bool x) b) b rfl (fun zz=>rfl) (fun zz=>rfl) (fun zz=>rfl) (fun zz=>rfl) (fun zz=>rfl) (fun zz=>rfl) (fun zz=>rfl)
 | .int x,b=>PV.casesOn (motive_1:=fun b=>PyData.eqv (toD (.int x)) (toD b)=eqD (.int x) b) b rfl (fun zz=>rfl) (fun zz=>rfl) (fun zz=>rfl) (fun zz=>rfl) (fun zz=>rfl) (fun zz=>rfl) (fun zz=>rfl)
 | .str x,b=>PV.casesOn (motive_1:=fun b=>PyData.eqv (toD (.str x)) (toD b)=eqD (.str x) b) b rfl (fun zz=>rfl) (fun zz=>rfl) (fun zz=>str_beq x _) (fun zz=>rfl) (fun zz=>rfl) (fun zz=>rfl) (fun zz=>rfl)
 | .bytes x,b=>PV.casesOn (motive_1:=fun b=>PyData.eqv (toD (.bytes x)) (toD b)=eqD (.bytes x) b) b rfl (fun zz=>rfl) (fun zz=>rfl) (fun zz=>rfl) (fun zz=>rfl) (fun zz=>rfl) (fun zz=>rfl) (fun zz=>rfl)
 | .list x,b=>PV.casesOn (motive_1:=fun b=>PyData.eqv (toD (.list x)) (toD b)=eqD (.list x) b) b rfl (fun zz=>rfl) (fun zz=>rfl) (fun zz=>rfl) (fun zz=>rfl) (fun y=>eqDs_eqv x y) (fun zz=>rfl) (fun zz=>rfl)
 | .tuple x,b=>PV.casesOn (motive_1:=fun b=>PyData.eqv (toD (.tuple x)) (toD b)=eqD (.tuple x) b) b rfl (fun zz=>rfl) (fun zz=>rfl) (fun zz=>rfl) (fun zz=>rfl) (fun zz=>rfl) (fun y=>eqDs_eqv x y) (fun zz=>rfl)
 | .inst x,b=>PV.casesOn (motive_1:=fun b=>PyData.eqv (toD (.inst x)) (toD b)=eqD (.inst x) b) b rfl (fun zz=>rfl) (fun zz=>rfl) (fun zz=>rfl) (fun zz=>rfl) (fun zz=>rfl) (fun zz=>rfl) (fun zz=>rfl)
theorem eqDs_eqv:∀ a b:List PV,PyData.eqvAll (toDs a) (toDs b)=eqDs a b
 | [],b=>List.casesOn (motive:=fun b=>PyData.eqvAll (toDs []) (toDs b)=eqDs [] b) b rfl fun zz zz=>rfl
 | x :: l,b=>List.casesOn (motive:=fun b=>PyData.eqvAll (toDs (x :: l)) (toDs b)=eqDs (x :: l) b) b rfl fun y m=>congr (congrArg and (eqD_eqv x y)) (eqDs_eqv l m)
end
theorem any_eqD (a:PV):∀ xs:List PV,((toDs xs).any fun y=>PyData.eqv y (toD a))=xs.any fun y=>eqD y a
 | []=>rfl
 | x :: r=>congr (congrArg or (eqD_eqv x a)) (any_eqD a r)
structure Lay (n:Nat) (d:PV):Prop where
 c:(toD d).canLay0=true
 l:(toD d).depth ≤ n
 r:∀ (C:Cx) (X:Addr → Prop) (h:Heap) (v:Value),Rep C X h d v → ∃ as,Reads h v (toD d) as
structure LayA (n:Nat) (ds:List PV):Prop where
 c:PyData.canLayAll0 (toDs ds)=true
 l:PyData.depthAll (toDs ds) ≤ n
 r:∀ (C:Cx) (X:Addr → Prop) (h:Heap) (vs:List Value),Reps C X h ds vs → ∃ as,ReadsAll h vs (toDs ds) as
theorem lay0 {f:List PV → Bool} {n:Nat} (hf:∀ xs,f xs=true → LayA n xs) (d:PV) (h:ok0 f d=true):Lay (n + 1) d:=by
 cases d with
 | none=>exact ⟨rfl,Nat.zero_le _,fun C X h v r=>by cases r; exact ⟨_,.none⟩⟩
 | bool b=>exact ⟨rfl,Nat.zero_le _,fun C X h v r=>by cases r; exact ⟨_,.bool b⟩⟩
 | int i=>exact ⟨rfl,Nat.zero_le _,fun C X h v r=>by cases r; exact ⟨_,.int i _⟩⟩
 | str s=>exact ⟨(by show (⟨s.toArray⟩:PySem.Str).cps.all (fun c=>decide (c < 1114112))=true; rw [List.all_toArray]; exact h),Nat.zero_le _,fun C X h v r=>by cases r; exact ⟨_,.str _ _⟩⟩
 | list xs=>exact ⟨(hf xs h).c,Nat.succ_le_succ (hf xs h).l,fun C X h' v r=>by cases r with | mk x g q=>exact ((hf xs h).r C X h' _ q).elim fun as ra=>⟨_,.list g rfl rfl ra⟩⟩
 | tuple xs=>exact ⟨(hf xs h).c,Nat.succ_le_succ (hf xs h).l,fun C X h' v r=>by cases r with | mk x g q=>exact ((hf xs h).r C X h' _ q).elim fun as ra=>⟨_,.tuple g rfl rfl ra⟩⟩
 | _=>cases h
theorem layA {f:PV → Bool} {n:Nat} (hf:∀ d,f d=true → Lay n d):∀ ds:List PV,ds.all f=true → LayA n ds
 | [],_=>⟨rfl,Nat.zero_le _,fun C X h vs r=>by cases r; exact ⟨_,.nil⟩⟩
 | d :: ds,h=>band (G:=LayA n (d :: ds)) h fun h1 h2=>⟨Bool.and_eq_true_iff.mpr ⟨(hf d h1).c,(layA hf ds h2).c⟩,Nat.max_le.mpr ⟨(hf d h1).l,(layA hf ds h2).l⟩,fun C X h vs r=>by
   cases r with | mk p q=>exact ((hf d h1).r C X h _ p).elim fun as ra=>((layA hf ds h2).r C X h _ q).elim fun bs rb=>⟨_,.cons ra rb⟩⟩
theorem okN_lay:∀ (n:Nat) (d:PV),okN n d=true → Lay (n + 1) d
 | 0=>lay0 fun zz h=>by cases h
 | n + 1=>lay0 (layA (okN_lay n))
theorem Lay.shaped {d:PV} (q:Lay 9 d):SeqAt.shaped (toD d)=true:=Bool.and_eq_true_iff.mpr ⟨q.c,decide_eq_true (Nat.le_trans q.l (by decide))⟩
theorem Lay.reads {d:EV} (q:Lay 9 d.pv) {C:Cx} {X:Addr → Prop} {h:Heap} {v:Value} (r:EVok C X h d v):∃ as,Reads h v (toD d.pv) as:=by
 cases d with
 | v d=>exact q.r C X h v r
 | h xs=>exact q.r C NoX h v (LV.map r (fun a o zz e=>⟨id,e⟩) fun l=>Reps.keep ⟨fun zz zz e zz=>e,fun zz zz zz zz=>id⟩ xs)
section
variable {T:Th} {A:Around} {X:Addr → Prop} {s:Shared} {a b:EV} {x y:Value}
theorem pv_cmp {r:Bool} (h:pvEq a.pv b.pv=some r) (qa:EVok T.C X s.heap a x) (qb:EVok T.C X s.heap b y) {G:Prop}
  (k:∀ as bs,Reads s.heap x (toD a.pv) as → Reads s.heap y (toD b.pv) bs → SeqAt.shaped (toD a.pv)=true → SeqAt.shaped (toD b.pv)=true → PyData.eqv (toD a.pv) (toD b.pv)=r → G):G:=
 oif h fun c h=>band c fun c1 c2=>((okN_lay 8 _ c1).reads qa).elim fun as ra=>((okN_lay 8 _ c2).reads qb).elim fun bs rb=>k as bs ra rb (okN_lay 8 _ c1).shaped (okN_lay 8 _ c2).shaped ((eqD_eqv _ _).trans (Option.some.inj h))
theorem mem_cmp {r:Bool} {xs:List PV} (hb:asL b.pv=some xs) (h:memP a.pv xs=some r) (qa:EVok T.C X s.heap a x) (qb:EVok T.C X s.heap b y) (hu:A.units + 65 < cLine) {G:Prop}
  (k:∀ as bs,Reads s.heap y (.list (toDs xs)) as → Reads s.heap x (toD a.pv) bs → PyData.canLayAll0 (toDs xs)=true → (toD a.pv).canLay0=true → A.units + 1 + min (PyData.depthAll (toDs xs)) (toD a.pv).depth < cLine → ((toDs xs).any fun y=>PyData.eqv y (toD a.pv))=r → G):G:=
 oif h fun c h=>band c fun c1 c2=>((okN_lay 8 (.list xs) c1).reads (d:=.h xs) (list_read hb qb)).elim fun as ra=>((okN_lay 8 _ c2).reads qa).elim fun bs rb=>
  k as bs ra rb (okN_lay 8 (.list xs) c1).c (okN_lay 8 _ c2).c (room_in_shaped (okN_lay 8 _ c2).shaped hu) ((any_eqD _ _).trans (Option.some.inj h))
theorem isN_pv {p:PV} (h:isN p=true):p=.none:=by
 cases p <;> first | rfl | cases h
theorem none_of {C:Cx} {h:Heap} {d:EV} {v:Value} (hn:isN d.pv=true) (q:EVok C X h d v):v=.none:=pv_read .none (isN_pv hn) q fun zz=>nofun
theorem asB_pv {p:PV} {t:Bool} (h:asB p=some t):p=.bool t:=by
 cases p <;> first | exact no h | exact congrArg PV.bool (Option.some.inj h)
theorem is_cmp {r:Bool} (h:isP a.pv b.pv=some r) (qa:EVok T.C X s.heap a x) (qb:EVok T.C X s.heap b y):Tr (model T.prog T.w) A (compareOp .Is x y) s (VR s (Value.bool r)):=by
 generalize ha:a.pv=pa at h
 cases pa with
 | none=>
  cases pv_read _ ha qa (fun zz=>nofun)
  exact oif h fun c h=>osome h fun Q E k=>by
   cases none_of c qb
   exact is_none (k _ _ ⟨Ext.refl _ _,rfl⟩)
 | bool c=>
  cases pv_read _ ha qa (fun zz=>nofun)
  exact omap h fun t ht Q E k=>by
   cases pv_read _ (asB_pv ht) qb (fun zz=>nofun)
   exact PyProof.Rows.is_bool (k _ _ ⟨Ext.refl _ _,rfl⟩)
 | str z=>
  cases pv_read _ ha qa (fun zz=>nofun)
  exact oif h fun c h=>osome h fun Q E k=>by
   cases none_of c qb
   exact is_none (k _ _ ⟨Ext.refl _ _,rfl⟩)
 | _=>exact no h
theorem isNot_cmp {r:Bool} (h:isP a.pv b.pv=some r) (hn:(asB a.pv).isSome=false) (qa:EVok T.C X s.heap a x) (qb:EVok T.C X s.heap b y):Tr (model T.prog T.w) A (compareOp .IsNot x y) s (VR s (Value.bool !r)):=by
 generalize ha:a.pv=pa at h hn
 cases pa with
 | none=>
  cases pv_read _ ha qa (fun zz=>nofun)
  exact oif h fun c h=>osome h fun Q E k=>by
   cases none_of c qb
   exact isNot_none (k _ _ ⟨Ext.refl _ _,rfl⟩)
 | str z=>
  cases pv_read _ ha qa (fun zz=>nofun)
  exact oif h fun c h=>osome h fun Q E k=>by
   cases none_of c qb
   exact isNot_none (k _ _ ⟨Ext.refl _ _,rfl⟩)
 | bool c=>cases hn
 | _=>exact no h
theorem lt_cmp {op:CmpOp} {f:Int → Int → Bool} {r:Bool} (h:ltP f a.pv b.pv=some r) (qa:EVok T.C X s.heap a x) (qb:EVok T.C X s.heap b y)
  (hf:∀ i j t u Q E,Q (.bool (f i j)) s → wpAny (model T.prog T.w) A (compareOp op (.int i t) (.int j u)) Q E s):Tr (model T.prog T.w) A (compareOp op x y) s (VR s (Value.bool r)):=
 obind h fun i hi h=>omap h fun j hj Q E k=>by
  cases int_read hi qa
  cases int_read hj qb
  exact hf i j _ _ Q E (k _ _ ⟨Ext.refl _ _,rfl⟩)
end
theorem cmp_ok {T:Th} (hP:∀ A,T.P A → A.units + 65 < cLine):CmpOk T:=fun op a b r A X s x y pa h qa qb=>by
 have hu:=hP A pa
 have hu':A.units + 64 < cLine:=Nat.lt_of_succ_lt hu
 cases op with
 | Eq=>exact fun Q E k=>pv_cmp h qa qb fun as bs ra rb sa sb e=>eq_dataH ra rb sa sb hu' (k _ _ ⟨Ext.refl _ _,congrArg Value.bool e⟩)
 | NotEq=>exact omap h fun r h Q E k=>pv_cmp h qa qb fun as bs ra rb sa sb e=>ne_dataH ra rb sa sb hu' (k _ _ ⟨Ext.refl _ _,congrArg (fun t=>Value.bool !t) e⟩)
 | In=>exact obind h fun xs hx h Q E k=>mem_cmp hx h qa qb hu fun as bs ra rb ca cb u e=>SeqAt.in_list_reads ra rb ca cb u (k _ _ ⟨Ext.refl _ _,congrArg Value.bool e⟩)
 | NotIn=>exact obind h fun xs hx h=>omap h fun r h Q E k=>mem_cmp hx h qa qb hu fun as bs ra rb ca cb u e=>SeqAt.notIn_list_reads ra rb ca cb u (k _ _ ⟨Ext.refl _ _,congrArg (fun t=>Value.bool !t) e⟩)
 | Is=>exact is_cmp h qa qb
 | IsNot=>exact onif h fun c h=>omap h fun r h=>isNot_cmp h c qa qb
 | Lt=>exact lt_cmp h qa qb fun i j t u Q E=>PySem.P.lt_int
 | LtE=>exact lt_cmp h qa qb fun i j t u Q E=>PySem.P.le_int
 | Gt=>exact lt_cmp h qa qb fun i j t u Q E=>PySem.P.gt_int
 | GtE=>exact lt_cmp h qa qb fun i j t u Q E=>PySem.P.ge_int
structure Bud (A:Around):Prop where
 handled:A.handled=none
 guards:A.guards=some []
 units:A.units + 100 < cLine
noncomputable def fnV (f:Nm):Value:=
 bif nmEq f n_len then .builtin "len" else bif nmEq f n_max then .builtin "max" else bif nmEq f n_sum then .builtin "sum" else bif nmEq f n_ord then .builtin "ord"
 else bif nmEq f n_chr then .builtin "chr" else bif nmEq f n_sorted then .builtin "sorted" else bif nmEq f n_repr then .builtin "repr" else bif nmEq f n_hex then .builtin "hex"
 else bif nmEq f n_tuple then .type "tuple" else .type "bytes"
noncomputable def Keepable (M:Model) (A:Around) (f:Value) (s:Shared):Prop:=∀ (Q:Keeper → Shared → Prop) (E:Value → Shared → Prop),(∀ k,Q k s) → wpAny M A (keeperOf f) Q E s
noncomputable abbrev BX (C:Cx):Addr → Prop:=fun a=>C.hb.get? a=none
theorem Rep.fromBase {C:Cx} {X:Addr → Prop} {h:Heap} {d:PV} {v:Value} (r:Rep C (BX C) C.hb d v) (k:Keep NoX C.hb h) (n:∀ a,X a → C.hb.get? a=none):Rep C X h d v:=
 Rep.keep ⟨k.any,fun a zz zz nb x=>nb (n a x)⟩ d r
structure At (T:Th) (A:Around) (X:Addr → Prop) (s:Shared):Prop where
 pa:T.P A
 base:Keep NoX T.C.hb s.heap
 newB:∀ a,X a → T.C.hb.get? a=none
 bnd:∀ a,X a → ∃ o,s.heap.get? a=some o
theorem ECtx.at {T:Th} {G:Gl} {σ:Sg} {A:Around} {X:Addr → Prop} {env:Env} {s:Shared} (c:ECtx T G σ A X env s):At T A X s:=⟨c.pa,c.e.base,c.e.newB,c.e.bnd⟩
inductive GV (C:Cx) (x:Nm) (v:Value):Prop
 | g (h:C.gm (mkS x)=some v)
 | b (n:C.gm (mkS x)=none) (h:C.bm (mkS x)=some v)
inductive Glob (C:Cx) (x:Nm) (R:Value → Prop):Prop
 | mk {v:Value} (g:GV C x v) (r:R v)
structure FunOk (T:Th) (args:List PV) (d:PV) (vf:Value):Prop where
 keep:∀ A s,Keep NoX T.C.hb s.heap → Keepable (model T.prog T.w) A vf s
 run:∀ A X s vs,At T A X s → Reps T.C X s.heap args vs → Tr (model T.prog T.w) A (PySem.call vf vs) s (ER T.C X s (.v d))
structure MethOk (T:Th) (m:Nm) (args:List PV) (d:PV) (f:Addr):Prop where
 fn:FunOk T args d (.ref f)
 get:∀ A X s x mA pl Q E,At T A X s → s.heap.Inst x T.C.cls mA → mA (mkS m)=none → Q (.ref f,[.ref x]) s → wpAny (model T.prog T.w) A (getMethod (.ref x) (mkS m) pl) Q E s
structure IR (C:Cx) (X:Addr → Prop) (a:Addr) (d:PV) (l:List PV) (s:Shared) (v:Value) (s':Shared):Prop where
 x:Ext (fun b=>b=a) s s'
 r:Rep C X s'.heap d v
 sl:SlotOk C X s'.heap (.iter none l) (.ref a)
structure IcallOk (T:Th) (xs:List PV) (d:PV) (r:List PV) (vf:Value):Prop where
 keep:∀ A s,Keep NoX T.C.hb s.heap → Keepable (model T.prog T.w) A vf s
 run:∀ A X s a,At T A X s → SlotOk T.C X s.heap (.iter none xs) (.ref a) → Tr (model T.prog T.w) A (PySem.call vf [.ref a]) s (IR T.C X a d r s)
structure SetR (C:Cx) (x:Addr) (a:Nm) (v:Value) (mA:PySem.Str → Option Value) (s s':Shared):Prop where
 os:s'.os=s.os
 gens:s'.gens=s.gens
 inst:s'.heap.Inst x C.cls fun y=>if y=mkS a then some v else mA y
 keep:∀ b o,b ≠ x → (∀ o₀ dx,s.heap.get? x=some o₀ → o₀.dict=some dx → b ≠ dx) → s.heap.get? b=some o → s'.heap.get? b=some o
 self:∀ o₀,s.heap.get? x=some o₀ → ∃ o₁,s'.heap.get? x=some o₁ ∧ o₁.cls=o₀.cls ∧ o₁.data=o₀.data ∧ o₁.slots=o₀.slots ∧ ∀ dx,o₀.dict=some dx → o₁.dict=some dx
structure TabGet (T:Th) (k:PV) (r:Option PV) (a:Addr):Prop where
 obj:∃ ob,T.C.hb.get? a=some ob ∧ ob.cls=.type "dict" ∧ ob.dict=none
 one:∀ A X s kv,At T A X s → Rep T.C X s.heap k kv → Tr (model T.prog T.w) A (call (.builtin "dict.get") [.ref a,kv]) s (ER T.C X s (.v (r.getD .none)))
 two:∀ A X s kv d dv,At T A X s → Rep T.C X s.heap k kv → Rep T.C X s.heap d dv → Tr (model T.prog T.w) A (call (.builtin "dict.get") [.ref a,kv,dv]) s (ER T.C X s (.v (r.getD d)))
noncomputable def SubTr (T:Th) (A:Around) (o i:Value) (s:Shared) (R:Value → Shared → Prop):Prop:=∀ Q E,(∀ v s',R v s' → Q v s') → SubscriptOn (model T.prog T.w) A o i Q E s
structure GlOk (T:Th) (G:Gl):Prop where
 gns:T.C.hb.Ns T.C.gl T.C.gm
 bns:T.C.hb.Ns T.C.bi T.C.bm
 const:∀ x d,G.const x=some d → Glob T.C x (Rep T.C (BX T.C) T.C.hb d)
 tab:∀ t d x,G.table t d=some (some x) → Glob T.C t fun vt=>∀ A X s dv,At T A X s → Rep T.C X s.heap d dv → SubTr T A vt dv s (ER T.C X s (.v x))
 inSet:∀ t d b,G.inSet t d=some b → Glob T.C t fun vt=>∀ A X s dv,At T A X s → Rep T.C X s.heap d dv → Tr (model T.prog T.w) A (compareOp .In dv vt) s (VR s (Value.bool b))
 cattr:∀ c a d,G.cattr c a=some d → Glob T.C c fun vc=>∀ A X s,At T A X s → Tr (model T.prog T.w) A (getAttr vc (mkS a) true) s (ER T.C X s (.v d))
 fld:∀ a,G.fld a=true → ∀ A X s x mA v,At T A X s → s.heap.Inst x T.C.cls mA → mA (mkS a)=some v → handedOut v=pure v → Tr (model T.prog T.w) A (getAttr (.ref x) (mkS a) true) s (VR s v)
 sto:∀ a,G.fld a=true → ∀ A X s x mA ns v,At T A X s → T.C.hb.get? x=none → s.heap.Inst x T.C.cls mA → Within mA ns → ns.length ≤ 1000 → Tr (model T.prog T.w) A (setAttr (.ref x) (mkS a) v) s fun zz s'=>SetR T.C x a v mA s s'
 tget:∀ t k r,G.table t k=some r → Glob T.C t fun vt=>∃ a,vt=.ref a ∧ TabGet T k r a
 bud:∀ A,T.P A → Bud A
 bname:∀ f,isBuiltin f=true → GV T.C f (fnV f)
 bval:∀ p ∈ [(n_range,Value.type "range"),(n_list,.type "list"),(n_zip,.type "zip"),(n_iter,.builtin "iter"),(n_next,.builtin "next")],GV T.C p.1 p.2
 icall:∀ f xs d r,G.icall f xs=some (d,r) → Glob T.C f (IcallOk T xs d r)
 call:∀ f args d,G.call f args=some d → Glob T.C f (FunOk T args d)
 meth:∀ m args d,G.meth m args=some d → ∃ f:Addr,MethOk T m args d f
section
variable {T:Th} {G:Gl} {σ:Sg} {A:Around} {X:Addr → Prop} {env:Env} {s:Shared} {E:Value → Shared → Prop} {Q:Value → Shared → Prop}
theorem gname (hG:GlOk T G) {x:Nm} {p:Pos} {v:Value} (hg:isGl G.sc x=true) (hv:GV T.C x v) (c:ECtx T G σ A X env s) (h:Q v s):wpAny (model T.prog T.w) A (eval (.Name (mkS x) p) env) Q E s:=
 band hg fun h1 h2=>by
  have gn:s.heap.Ns env.globals T.C.gm:=c.e.glo ▸ Ns.keepX hG.gns c.e.base id
  refine PySem.Calls.Name_function_global c.e.fn (c.e.kinds x _ (dec h1)) ?_ (not_debug (bnot h2))
  cases hv with
  | g hv=>exact PySem.Calls.loadGlobal_global gn hv h
  | b n hv=>exact PySem.Calls.loadGlobal_builtin gn n (c.e.bui ▸ Ns.keepX hG.bns c.e.base id) hv h
theorem sGname (hG:GlOk T G) {x:Nm} {p:Pos}:ESound T G (.gname x p):=fun σ d h=>oif h fun hg h=>omap h fun d hd A X env s c Q E k=>by
 cases hG.const _ _ hd with | mk g r=>exact gname hG hg g c (k _ _ ⟨Ext.refl _ _,Rep.fromBase r c.e.base c.e.newB⟩)
theorem RepF.get {C:Cx} {h:Heap} {x:Nm}:∀ {fs:List (Nm × PV)} {m:PySem.Str → Option Value} {d:PV},RepF C X h fs m → lookN x fs=some d → ∃ v,m (mkS x)=some v ∧ Rep C X h d v
 | [],_,_,_,q=>no q
 | (y,d') :: fs,m,d,r,q=>by
  cases r with | mk a b e=>
  rw [e]
  by_cases k:mkS x=mkS y
  ·rw [if_pos k]
   cases mkS_inj k
   rw [show lookN x ((x,d') :: fs)=some d' by show (bif nmEq x x then some d' else _)=_; rw [nmEq_self]; rfl] at q
   exact ⟨_,rfl,Option.some.inj q ▸ a⟩
  ·rw [if_neg k]
   rw [show lookN x ((y,d') :: fs)=lookN x fs by show (bif nmEq y x then some d' else _)=_; rw [nmEq_ne fun e=>k (congrArg mkS e.symm)]; rfl] at q
   exact RepF.get b q
theorem as_in {C:Cx} {h:Heap} {sl:Slot} {fs:List (List Nat × PV)} {v:Value} (e:asIn sl=some fs) (r:SlotOk C X h sl v):IV C (fun zz=>True) h (RepF C X h fs) v:=by
 have up:∀ {N:Addr → Prop} {fs'},asIn sl=some fs → IV C N h (RepF C X h fs') v → fs'=fs → IV C (fun zz=>True) h (RepF C X h fs) v:=fun zz r e=>e ▸ IV.map r (fun a o zz e=>⟨trivial,e⟩) fun zz q=>q
 cases sl with
 | fz d=>cases d <;> first | exact no e | exact up e r (Option.some.inj e)
 | own xs=>exact no e
 | iter t xs=>exact no e
 | self fs'=>exact up e r.2 (Option.some.inj e)
theorem rep_handed {C:Cx} {h:Heap} {d:PV} {v:Value} (r:Rep C X h d v):handedOut v=pure v:=by
 cases d <;> cases r <;> rfl
theorem sAttr (hG:GlOk T G) {o a:Nm} {op p:Pos}:ESound T G (.attr o op a p):=fun σ d h=>onif h fun hd h=>obind h fun sl hl h=>obind h fun fs hf h=>oif h fun ha h=>omap h fun d hx A X env s c Q E k=>by
 obtain ⟨v,n,r⟩:=c.e.slot hl
 refine Attribute_name (wpAny_Name (load_at c.e.fn n ?_) (not_debug hd))
 cases as_in hf r with | mk _ _ ne g oc od on nd rf=>
 obtain ⟨v',h2,h3⟩:=RepF.get rf hx
 exact hG.fld a ha A X s _ _ v' c.at ⟨_,g,oc,on,.inr ⟨_,od,ne,nd⟩⟩ h2 (rep_handed h3) _ E fun v s' q=>k _ _ ⟨q.x,q.e ▸ Rep.keep (.nox q.x.keep) d h3⟩
theorem sCattr (hG:GlOk T G) {o a:Nm} {op p:Pos}:ESound T G (.cattr o op a p):=fun σ d h=>oif h fun hg h=>omap h fun d hx A X env s c Q E k=>by
 cases hG.cattr _ _ _ hx with | mk g r=>exact Attribute_name (gname hG hg g c (r A X s c.at _ E k))
end
inductive AtI {α:Type} (xs:List α) (i:Int) (x:α):Prop
 | pos (z:i.natAbs ≤ 16777216) (h:0 ≤ i) (e:xs[i.toNat]?=some x)
 | neg (z:i.natAbs ≤ 16777216) (h:i < 0) (l:0 ≤ i + xs.length) (e:xs[(i + xs.length).toNat]?=some x)
theorem atI_at {α:Type} {xs:List α} {i:Int} {x:α} (h:atI xs i=some x):AtI xs i x:=onif h fun z h=>by
 have z:i.natAbs ≤ 16777216:=Decidable.byContradiction fun q=>Bool.false_ne_true (z.symm.trans (by rw [decide_eq_false q]; rfl))
 by_cases h0:0 ≤ i
 ·rw [decide_eq_true h0] at h
  exact .pos z h0 h
 ·rw [decide_eq_false h0] at h
  exact oif h fun h1 h=>.neg z (Int.not_le.mp h0) (dec h1) h
section
variable {prog:Program} {w:World} {A:Around} {E:Value → Shared → Prop} {s:Shared} {env:Env} {C:Cx} {X:Addr → Prop}
theorem AtI.rep {h:Heap} {xs:List PV} {its:List Value} (r:Reps C X h xs its) {i:Int} {d:PV} (q:AtI xs i d):∃ v,AtI its i v ∧ Rep C X h d v:=by
 cases q with
 | pos z h e=>exact (r.get _ _ e).elim fun v hv=>⟨v,.pos z h hv.1,hv.2⟩
 | neg z h l e=>
  rw [r.length] at l e
  exact (r.get _ _ e).elim fun v hv=>⟨v,.neg z h l hv.1,hv.2⟩
theorem sub_gen {value slice:Expr} {pos:Pos} {Q:Value → Shared → Prop}
  (h:wpAny (model prog w) A (eval value env) (fun o s₁=>wpAny (model prog w) A (eval slice env) (fun i s₂=>SubscriptOn (model prog w) A o i Q E s₂) E s₁) E s) :
  wpAny (model prog w) A (eval (.Subscript value slice pos) env) Q E s:=by
 rw [eval_Subscript]
 refine wpAny_bind (wpAny_mono h (fun o s₁ h₁=>wpAny_bind (wpAny_holding (wpAny_mono h₁ (fun i s₂ h₂=>wpAny_bind (wpAny_standAt ?_)) fun zz zz x=>x))) fun zz zz x=>x)
 obtain ⟨T,id,hl,hT,hg⟩:=h₂
 have fin:∀ vs,wpAny (model prog w) A (operate vs (getItem o i)) (fun r s₃=>wpAny (model prog w) A (letTemporaryGo value o r >>= fun zz=>pure r) Q E s₃) E s₂:=fun vs=>
  wpAny_operating (wpAny_mono hg (fun r s₃ h₃=>wpAny_bind (wpAny_letTemporaryGo (wpAny_pure h₃))) fun zz zz x=>x)
 have key:wpAny (model prog w) A (subscripted slice false o i) (fun r s₃=>wpAny (model prog w) A (letTemporaryGo value o r >>= fun zz=>pure r) Q E s₃) E s₂:=by
  cases slice with
  | Slice lo hi st p=>cases st <;> exact fin _
  | _=>exact fin _
 refine wpAny_bind ?_
 rw [getitemInPython_of_ne hT.not_modules]
 exact wpAny_bind (wpAny_specialOf hT hl (wpAny_pure (wpAny_bind key)))
theorem fit63 {i:Int} (z:i.natAbs ≤ 16777216):i < 2 ^ 63 ∧ -(2 ^ 63) ≤ i:=by omega
theorem neg_len {i:Int} {n:Nat} (h:0 ≤ i + n):-(n:Int) ≤ i:=by omega
theorem item_list {a:Addr} {its:List Value} {n:Nat} {i:Int} {t:Tok} {v:Value} {Q:Value → Shared → Prop} (hg:s.heap.get? a=some (listO its n)) (q:AtI its i v) (h:Q v s):SubscriptOn (model prog w) A (.ref a) (.int i t) Q E s:=by
 refine ⟨"list",_,F.slot_list_getitem.lookup,⟨_,hg,rfl⟩,?_⟩
 cases q with
 | pos z h0 e=>exact wpAny_getItem_list ⟨_,hg,rfl,n,rfl⟩ h0 (fit63 z).1 ((List.getElem?_toArray).trans e) h
 | neg z h0 l e=>exact wpAny_getItem_list_neg ⟨_,hg,rfl,n,rfl⟩ h0 (neg_len l) (fit63 z).2 ((List.getElem?_toArray).trans e) h
theorem idx_pos {α:Type} {xs:List α} {i:Int} {x:α} (h0:0 ≤ i) (e:xs[i.toNat]?=some x):seqIndex? i xs.length=some i.toNat:=by
 have:=(List.getElem?_eq_some_iff.mp e).1
 exact seqIndex_of h0 (by omega)
theorem AtI.ix {α:Type} {xs:List α} {i:Int} {x:α} (q:AtI xs i x):∃ j,seqIndex? i xs.length=some j ∧ xs[j]?=some x ∧ i < 2 ^ 63 ∧ -(2 ^ 63) ≤ i:=by
 cases q with
 | pos z h0 e=>exact ⟨_,idx_pos h0 e,e,fit63 z⟩
 | neg z h0 l e=>exact ⟨_,seqIndex_neg h0 (neg_len l),e,fit63 z⟩
theorem item_tuple {a:Addr} {its:List Value} {n:Nat} {i:Int} {t:Tok} {v:Value} {Q:Value → Shared → Prop} (hg:s.heap.get? a=some (tupO its n)) (q:AtI its i v) (h:Q v s):SubscriptOn (model prog w) A (.ref a) (.int i t) Q E s:=by
 obtain ⟨j,h1,h2,h3,h4⟩:=q.ix
 exact ⟨"tuple",_,F.slot_tuple_getitem.lookup,⟨_,hg,rfl⟩,PySem.P.getItem_tuple (n:=n) (items:=its.toArray) (k:=j) hg h4 h3 h1 ((List.getElem?_toArray).trans h2) h⟩
theorem item_str {x:List Nat} {i:Int} {t u:Tok} {c:Nat} {Q:Value → Shared → Prop} (q:AtI x i c) (h:∀ v s',ER C X s (.v (.str [c])) v s' → Q v s'):SubscriptOn (model prog w) A (strV x u) (.int i t) Q E s:=by
 obtain ⟨j,h1,h2,h3,h4⟩:=q.ix
 refine ⟨"str",_,F.slot_str_getitem.lookup,(by rfl),PySem.P.getItem_str (c:=c) ?_ ?_ (h _ _ ⟨Ext.tok _ _ _,.mk _⟩)⟩
 ·rw [decide_eq_false (Int.not_lt.mpr h4),decide_eq_false (Int.not_le.mpr h3)]; rfl
 ·show (seqIndex? i x.length).bind (x.toArray[·]?)=some c
  rw [h1]
  exact (List.getElem?_toArray).trans h2
end
section
variable {T:Th} {G:Gl} {σ:Sg} {A:Around} {X:Addr → Prop} {env:Env} {s:Shared}
theorem item_ok {x d:EV} {i:Int} {v u:Value} (h:atEV x i=some d) (hx:EVok T.C X s.heap x v) (hu:IntV i u):SubTr T A v u s (ER T.C X s d):=by
 cases hu with | mk t=>
 have h:atD x.pv i=some d:=h
 generalize hp:x.pv=p at h
 cases p with
 | str z=>
  cases pv_read _ hp hx (fun zz=>nofun) with | mk u=>
  exact omap h fun c hc Q E k=>item_str (atI_at hc) k
 | list z=>
  exact omap h fun c hc Q E k=>by
   cases list_read (xs:=z) (congrArg asL hp) hx with | mk _ g r=>
   exact (atI_at hc).rep r |>.elim fun v hv=>item_list g hv.1 (k _ _ ⟨Ext.refl _ _,hv.2⟩)
 | tuple z=>
  exact omap h fun c hc Q E k=>by
   cases pv_read _ hp hx (fun zz=>nofun) with | mk _ g r=>
   exact (atI_at hc).rep r |>.elim fun v hv=>item_tuple g hv.1 (k _ _ ⟨Ext.refl _ _,hv.2⟩)
 | _=>exact no h
theorem sSub {o i:E} {p:Pos} (ho:ESound T G o) (hi:ESound T G i):ESound T G (.sub o i p):=fun σ d h=>obind h fun x hx h=>obind h fun j hj h=>obind hj fun y hy hj A X env s c Q E k=>
 sub_gen (ho σ x hx A X env s c _ E fun v s₁ q=>hi σ _ (valO_some hy) A X env s₁ (c.er q) _ E fun u s₂ q2=>item_ok h (q.on q2) (int_read (d:=.v y) hj q2.r) Q E fun v s₃ q3=>k v s₃ ((q.to q2).to q3))
theorem sTab (hG:GlOk T G) {x:Nm} {xp:Pos} {i:E} {p:Pos} (hi:ESound T G i):ESound T G (.tab x xp i p):=fun σ d h=>oif h fun hg h=>obind h fun y hy h=>obind h fun r hr h=>omap h fun z hz A X env s c Q E k=>by
 cases hz
 cases hG.tab _ _ _ hr with | mk g t=>
 exact sub_gen (gname hG hg g c (hi σ _ (valO_some hy) A X env s c _ E fun u s₁ q=>t A X s₁ u (c.er q).at q.r Q E fun v s₂ q2=>k v s₂ (q.to q2)))
structure PR (s:Shared) (r:Option Int) (v:Value) (s':Shared):Prop where
 x:Ext NoX s s'
 p:IsPart v r
theorem part_ok {o:Option E} (ho:∀ e,o=some e → ESound T G e) {r:Option Int} (h:evO G o σ=some r) (c:ECtx T G σ A X env s):Tr (model T.prog T.w) A (evalPart (ob o) env) s (PR s r):=by
 cases o with
 | none=>
  exact osome h fun Q E k=>by
   rw [show ob none=none from rfl,evalPart_none]
   exact wpAny_pure (k _ _ ⟨Ext.refl _ _,.none⟩)
 | some e=>
  exact omap h fun i hi=>obind hi fun y hy hi Q E k=>by
   rw [show ob (some e)=some e.b from rfl,evalPart_some]
   exact ho e rfl σ _ (valO_some hy) A X env s c _ E fun v s₁ q=>by
    cases int_read (d:=.v y) hi q.r
    exact k _ _ ⟨q.x,.int _ _⟩
theorem Reps.pick {C:Cx} {h:Heap} {xs:List PV} {its:List Value} (r:Reps C X h xs its):∀ idx:List Nat,Reps C X h (idx.filterMap (xs[·]?)) (idx.filterMap (its[·]?))
 | []=>rfl
 | i :: idx=>by
  cases hx:xs[i]? with
  | none=>
   have hn:its[i]?=none:=List.getElem?_eq_none_iff.mpr (r.length ▸ List.getElem?_eq_none_iff.mp hx)
   rw [List.filterMap_cons_none hx,List.filterMap_cons_none hn]
   exact Reps.pick r idx
  | some d=>
   obtain ⟨v,hv,q⟩:=r.get i d hx
   rw [List.filterMap_cons_some hx,List.filterMap_cons_some hv]
   exact ⟨q,Reps.pick r idx⟩
theorem slice_arr {xs:List PV} {its:List Value} (e:xs.length=its.length) (a b c:Option Int):slicePick its.toArray a b c=((sliceRange (sliceBounds a b c xs.length).1 (sliceBounds a b c xs.length).2.1 (sliceBounds a b c xs.length).2.2).filterMap (its[·]?)).toArray:=by
 unfold slicePick
 rw [e]
 simp only [List.getElem?_toArray,List.size_toArray]
theorem sSlice {o:E} {lo hi st:Option E} {sp p:Pos} (ho:ESound T G o) (hlo:∀ e,lo=some e → ESound T G e) (hhi:∀ e,hi=some e → ESound T G e) (hst:∀ e,st=some e → ESound T G e):ESound T G (.slice o lo hi st sp p):=
 fun σ d h=>obind h fun x hx h=>obind h fun xs hxs h=>obind h fun a ha h=>obind h fun b hb h=>obind h fun c hc h=>oif h fun hz h=>obind h fun l hl h=>oif h fun hz' h=>osome h <| onif hl fun h0 hl=>osome hl fun A X env s cx Q E k=>
 sub_gen (ho σ x hx A X env s cx _ E fun vo s₁ q=>wpAny_Slice (part_ok hlo ha (cx.er q) _ E fun v1 s₂ q1=>part_ok hhi hb ((cx.er q).ext q1.x) _ E fun v2 s₃ q2=>part_ok hst hc (((cx.er q).ext q1.x).ext q2.x) _ E fun v3 s₄ q3=>by
  have X3:=(q1.x.trans q2.x).trans q3.x
  have X4:=X3.trans (Ext.pushed NoX s₄ { cls:=.type "slice",data:=.fields #[v1,v2,v3] })
  cases list_read hxs (q.r.keep X4.keep) with | @mk la its n _ g r=>
  refine ⟨"list",_,F.slot_list_getitem.lookup,⟨_,g,rfl⟩,?_⟩
  refine wpAny_getItem_list_slice (hl:=⟨_,g,rfl,_,rfl⟩) (Heap.IsSliceOf.new _ _ _ _) q1.p q2.p q3.p (of_decide_eq_false h0) ?_ ?_
  ·have hk:=list_done ((cx.er q).ext X4).e.newX (r.pick (sliceRange (sliceBounds a b c xs.length).1 (sliceBounds a b c xs.length).2.1 (sliceBounds a b c xs.length).2.2))
   rw [slice_arr r.length]
   exact k _ _ (.pre (q.x.trans X4) hk)
  ·exact sz_len hz r))
end
section
variable {α:Type} {ins:α → List α → List α} {le:α → α → Prop}
structure InsOk (ins:α → List α → List α) (le:α → α → Prop):Prop where
 nil:∀ x,ins x []=[x]
 cons:∀ x y r,(ins x (y :: r)=x :: y :: r ∧ le x y) ∨ (ins x (y :: r)=y :: ins x r ∧ le y x)
 trans:∀ {a b c},le a b → le b c → le a c
theorem InsOk.perm (h:InsOk ins le) (x:α):∀ l,(ins x l).Perm (x :: l)
 | []=>h.nil x ▸ .refl _
 | y :: r=>(h.cons x y r).elim (fun e=>e.1 ▸ .refl _) fun e=>e.1 ▸ ((h.perm x r).cons y).trans (.swap x y r)
theorem InsOk.pw (h:InsOk ins le) (x:α):∀ l:List α,l.Pairwise le → (ins x l).Pairwise le
 | [],_=>h.nil x ▸ List.pairwise_cons.mpr ⟨nofun,.nil⟩
 | y :: r,q=>(h.cons x y r).elim
  (fun e=>e.1 ▸ List.pairwise_cons.mpr ⟨fun z hz=>(List.mem_cons.mp hz).elim (fun q=>q ▸ e.2) fun hz=>h.trans e.2 ((List.pairwise_cons.mp q).1 z hz),q⟩)
  fun e=>e.1 ▸ List.pairwise_cons.mpr ⟨fun z hz=>(List.mem_cons.mp ((h.perm x r).mem_iff.mp hz)).elim (fun q=>q ▸ e.2) ((List.pairwise_cons.mp q).1 z),h.pw x r (List.pairwise_cons.mp q).2⟩
theorem InsOk.sort (h:InsOk ins le) {srt:List α → List α} (h0:srt []=[]) (h1:∀ x r,srt (x :: r)=ins x (srt r)):∀ l,(srt l).Perm l ∧ (srt l).Pairwise le
 | []=>by rw [h0]; exact ⟨.refl _,.nil⟩
 | x :: r=>by rw [h1]; exact ⟨(h.perm x _).trans ((h.sort h0 h1 r).1.cons x),h.pw x _ (h.sort h0 h1 r).2⟩
end
theorem insZ_ok:InsOk insZ (· ≤ ·):=⟨fun zz=>rfl,fun x y r=>by
 by_cases h:x ≤ y
 ·exact .inl ⟨by show (bif decide (x ≤ y) then _ else _)=_; rw [decide_eq_true h]; rfl,h⟩
 ·exact .inr ⟨by show (bif decide (x ≤ y) then _ else _)=_; rw [decide_eq_false h]; rfl,Int.le_of_lt (Int.not_le.mp h)⟩,Int.le_trans⟩
theorem sortZ_uniq {l m:List Int} (p:m.Perm l) (h:m.Pairwise (· ≤ ·)):m=sortZ l:=
 have s:=insZ_ok.sort (srt:=sortZ) rfl (fun zz zz=>rfl) l
 List.Perm.eq_of_pairwise (le:=(· ≤ ·)) (fun a b zz zz h1 h2=>Int.le_antisymm h1 h2) h s.2 (p.trans s.1.symm)
noncomputable abbrev leS (a b:PySem.Str):Prop:=Spec.ltCps b.cps.toList a.cps.toList=false
theorem leS_iff (a b:PySem.Str):leS a b ↔ a.cps.toList ≤ b.cps.toList:=by
 unfold leS
 rw [ltCps_eq,decide_eq_false_iff_not]
 exact List.not_lt
theorem leS_antisymm {a b:PySem.Str} (h:leS a b) (h':leS b a):a=b:=nm_inj (List.le_antisymm ((leS_iff a b).mp h) ((leS_iff b a).mp h'))
theorem insS_ok:InsOk insS leS:=⟨fun zz=>rfl,fun x y r=>by
 cases h:Spec.ltCps y.cps.toList x.cps.toList with
 | false=>exact .inl ⟨by show (bif Spec.ltCps y.cps.toList x.cps.toList then _ else _)=_; rw [h]; rfl,h⟩
 | true=>exact .inr ⟨by show (bif Spec.ltCps y.cps.toList x.cps.toList then _ else _)=_; rw [h]; rfl,(leS_iff y x).mpr (List.le_of_lt (of_decide_eq_true (ltCps_eq _ _ ▸ h)))⟩,
 fun h h'=>(leS_iff _ _).mpr (List.le_trans ((leS_iff _ _).mp h) ((leS_iff _ _).mp h'))⟩
theorem rising_pw:∀ (l:List PySem.Str) (p:PySem.Str),risingS p l=true → (p :: l).Pairwise leS
 | [],p,_=>List.pairwise_cons.mpr ⟨nofun,.nil⟩
 | x :: r,p,h=>band (G:=(p :: x :: r).Pairwise leS) h fun h1 h2=>
  have ih:=rising_pw r x h2
  List.pairwise_cons.mpr ⟨fun z hz=>(List.mem_cons.mp hz).elim (fun q=>q ▸ bnot h1) fun hz=>insS_ok.trans (bnot h1) ((List.pairwise_cons.mp ih).1 z hz),ih⟩
theorem sortS_uniq {l m:List PySem.Str} (p:m.Perm l) (h:sortedS m=true):m=sortS l:=
 have s:=insS_ok.sort (srt:=sortS) rfl (fun zz zz=>rfl) l
 List.Perm.eq_of_pairwise (le:=leS) (fun a b zz zz h1 h2=>leS_antisymm h1 h2) (by
  cases m with
  | nil=>exact .nil
  | cons x r=>exact rising_pw r x h) s.2 (p.trans s.1.symm)
section
variable {C:Cx} {X:Addr → Prop} {h:Heap}
theorem asI_pv {p:PV} {i:Int} (h:asI p=some i):p=.int i:=by
 cases p <;> first | exact no h | exact congrArg PV.int (Option.some.inj h)
theorem asS_pv {p:PV} {i:List Nat} (h:asS p=some i):p=.str i:=by
 cases p <;> first | exact no h | exact congrArg PV.str (Option.some.inj h)
theorem intsP_are:∀ {xs:List PV} {ns:List Int},intsP xs=some ns → xs=ns.map .int ∧ ∀ {its:List Value},Reps C X h xs its → IntsAre its ns
 | [],_,q=>osome q ⟨rfl,fun r=>by cases r; exact .nil⟩
 | x :: xs,_,q=>obind q fun i hi q=>omap q fun ns hn=>by
  cases asI_pv hi
  exact ⟨congrArg (PV.int i :: ·) (intsP_are hn).1,fun r=>by cases r with | mk p q=>cases p with | mk t=>exact .cons i t ((intsP_are hn).2 q)⟩
theorem strsP_are:∀ {xs:List PV} {ns:List PySem.Str},strsP xs=some ns → xs=ns.map ofStr ∧ ∀ {its:List Value},Reps C X h xs its → StrsAre its ns
 | [],_,q=>osome q ⟨rfl,fun r=>by cases r; exact .nil⟩
 | x :: xs,_,q=>obind q fun i hi q=>omap q fun ns hn=>by
  cases asS_pv hi
  exact ⟨congrArg (PV.str i :: ·) (strsP_are hn).1,fun r=>by cases r with | mk p q=>cases p with | mk t=>exact .cons _ t ((strsP_are hn).2 q)⟩
theorem reps_ints {its:List Value} {ns:List Int} (r:IntsAre its ns):Reps C X h (ns.map .int) its:=by
 induction r with
 | nil=>rfl
 | cons n t r ih=>exact ⟨.mk t,ih⟩
theorem reps_strs {its:List Value} {ns:List PySem.Str} (r:StrsAre its ns):Reps C X h (ns.map ofStr) its:=by
 induction r with
 | nil=>rfl
 | cons n t r ih=>exact ⟨.mk t,ih⟩
theorem ints_arr {its:List Value} {ns:List Int} (r:IntsAre its ns):∃ ps:List (Int × Tok),its=ps.map (fun p=>Value.int p.1 p.2) ∧ ps.map (·.1)=ns:=by
 induction r with
 | nil=>exact ⟨[],rfl,rfl⟩
 | cons n t r ih=>exact ih.elim fun ps h=>⟨(n,t) :: ps,congrArg (Value.int n t :: ·) h.1,congrArg (n :: ·) h.2⟩
end
structure MaxOk (m:Int) (xs:List PV) (d:PV) (ns:List Int) (M:Int):Prop where
 n:intsP xs=some ns
 e:d=.int M
 mem:M ∈ m :: ns
 le:∀ y ∈ m :: ns,y ≤ M
theorem maxI_some:∀ (xs:List PV) (m:Int) (d:PV),maxI m xs=some d → ∃ ns M,MaxOk m xs d ns M
 | [],m,d,q=>⟨[],m,rfl,(Option.some.inj q).symm,.head _,fun y hy=>by cases hy with | head=>exact Int.le_refl _ | tail _ h=>cases h⟩
 | x :: xs,m,d,q=>obind q fun i hi q=>by
  obtain ⟨ns,M,hn,he,hm,hl⟩:=maxI_some xs _ d q
  have hb:=hl _ (.head _)
  have ht:=fun y hy=>hl y (.tail _ hy)
  refine ⟨i :: ns,M,by show (asI x).bind _=_; rw [hi]; show (intsP xs).map _=_; rw [hn]; rfl,he,?_,fun y hy=>?_⟩
  ·cases hm with
   | head=>cases decide (m < i) <;> first | exact .head _ | exact .tail _ (.head _)
   | tail _ h=>exact .tail _ (.tail _ h)
  ·by_cases c:m < i
   ·rw [decide_eq_true c] at hb
    cases hy with
    | head=>exact Int.le_trans (Int.le_of_lt c) hb
    | tail _ h=>cases h with
     | head=>exact hb
     | tail _ h=>exact ht y h
   ·rw [decide_eq_false c] at hb
    cases hy with
    | head=>exact hb
    | tail _ h=>cases h with
     | head=>exact Int.le_trans (Int.not_lt.mp c) hb
     | tail _ h=>exact ht y h
theorem sumI_some:∀ (xs:List PV) (m:Int) (d:PV),sumI m xs=some d → ∃ ns,intsP xs=some ns ∧ d=.int (m + ns.sum)
 | [],m,d,q=>⟨[],rfl,(Option.some.inj q).symm.trans (congrArg PV.int (Int.add_zero m).symm)⟩
 | x :: xs,m,d,q=>obind q fun i hi q=>(sumI_some xs _ d q).elim fun ns h=>⟨i :: ns,by show (asI x).bind _=_; rw [hi]; show (intsP xs).map _=_; rw [h.1]; rfl,by rw [h.2,List.sum_cons,Int.add_assoc]⟩
structure BytesOk (xs:List PV) (b:List Nat) (ns:List Int):Prop where
 n:intsP xs=some ns
 r:∀ n ∈ ns,0 ≤ n ∧ n < 256
 e:b=ns.map Int.toNat
theorem bytesP_some:∀ (xs:List PV) (b:List Nat),bytesP xs=some b → ∃ ns,BytesOk xs b ns
 | [],b,q=>⟨[],rfl,nofun,(Option.some.inj q).symm⟩
 | x :: xs,b,q=>obind q fun i hi q=>oif q fun c q=>band c fun c1 c2=>omap q fun l hl=>(bytesP_some xs l hl).elim fun ns h=>⟨i :: ns,by show (asI x).bind _=_; rw [hi]; show (intsP xs).map _=_; rw [h.n]; rfl,
  fun n hn=>(List.mem_cons.mp hn).elim (fun e=>e ▸ ⟨dec c1,dec c2⟩) (h.r n),congrArg (i.toNat :: ·) h.e⟩
section
variable {prog:Program} {w:World} {C:Cx} {X:Addr → Prop} {s:Shared} {A:Around}
theorem arg1 {h:Heap} {ds:List EV} {vs:List Value} {p:PV} {G:List Value → Prop} (e:one (ds.map EV.pv)=some p) (q:EVs C X h ds vs) (k:∀ d v,d.pv=p → EVok C X h d v → G [v]):G vs:=by
 cases ds with
 | nil=>exact no e
 | cons d ds=>cases ds with
  | nil=>cases q with | mk a b=>cases b; exact k d _ (Option.some.inj e) a
  | cons d' ds=>exact no e
theorem kept_ext {h':Heap} {tk:Nat} (k:∀ b o,s.heap.get? b=some o → h'.get? b=some o):Ext NoX s { s with heap:=h',toks:=tk }:=⟨fun a o e zz=>k a o e,rfl,rfl⟩
theorem sz63 {n:Nat} (h:n ≤ sizeLine):(n:Int) < 2 ^ 63:=Int.lt_of_le_of_lt (Int.ofNat_le.mpr h) (by decide)
theorem numAt_mem {ps:List (Int × Tok)} {j:Nat} (h:j < ps.length):numAt ps.toArray j ∈ ps.map (·.1):=by
 unfold numAt
 rw [List.getElem?_toArray,List.getElem?_eq_getElem h]
 exact List.mem_map.mpr ⟨ps[j],List.getElem_mem h,rfl⟩
theorem mem_numAt {ps:List (Int × Tok)} {M:Int} (h:M ∈ ps.map (·.1)):∃ j,j < ps.length ∧ numAt ps.toArray j=M:=by
 obtain ⟨p,hp1,rfl⟩:=List.mem_map.mp h
 obtain ⟨j,hj,rfl⟩:=List.mem_iff_getElem.mp hp1
 refine ⟨j,hj,?_⟩
 unfold numAt
 rw [List.getElem?_toArray,List.getElem?_eq_getElem hj]
 rfl
theorem b_len {p:PV} {n:Nat} {d:EV} {v:Value} (hl:lenP p=some n) (z:smallN n=true) (hp:d.pv=p) (q:EVok C X s.heap d v):Tr (model prog w) A (call (.builtin "len") [v]) s (ER C X s (.v (.int n))):=by
 cases p with
 | str x=>
  obtain rfl:=Option.some.inj hl
  cases pv_read _ hp q (fun zz=>nofun)
  exact fun Q E k=>PySem.P.len_str (Int.not_le.mpr (sz63 (smallN_le z))) (k _ _ ⟨Ext.tok _ _ _,.mk _⟩)
 | list xs=>
  obtain rfl:=Option.some.inj hl
  cases list_read (xs:=xs) (congrArg asL hp) q with | mk _ g r=>
  exact fun Q E k=>len_list ⟨_,g,rfl,_,rfl⟩ (sz63 (sz_len z r)) (k _ _ ⟨Ext.tok _ _ _,by rw [r.length]; exact .mk _⟩)
 | tuple xs=>
  obtain rfl:=Option.some.inj hl
  cases pv_read _ hp q (fun zz=>nofun) with | mk _ g r=>
  exact fun Q E k=>PySem.P.len_tuple g (Int.not_le.mpr (sz63 (sz_len z r))) (k _ _ ⟨Ext.tok _ _ _,by rw [r.length]; exact .mk _⟩)
 | _=>exact no hl
theorem b_max1 (hh:A.handled=none) {p r:PV} {d:EV} {v:Value} (h:max1 p=some r) (hp:d.pv=p) (q:EVok C X s.heap d v):Tr (model prog w) A (call (.builtin "max") [v]) s (ER C X s (.v r)):=
 obind h fun l hl h=>by
  cases l with
  | nil=>exact no h
  | cons x xs=>
   exact obind h fun i hi h Q E k=>by
    obtain ⟨ns,M,hn,rfl,hM,hall⟩:=maxI_some _ _ _ h
    cases list_read (d:=d) (congrArg asL hp |>.trans hl) q with | mk _ g r=>
    have ia:=(intsP_are (C:=C) (X:=X) (h:=s.heap) (xs:=x :: xs) (ns:=i :: ns) (by show (asI x).bind _=_; rw [hi]; show (intsP xs).map _=_; rw [hn]; rfl)).2 r
    obtain ⟨ps,rfl,hps⟩:=ints_arr ia
    have hlen:ps.length=ns.length + 1:=(List.length_map _).symm.trans (congrArg List.length hps)
    refine max_intList (xs:=ps.toArray) hh ⟨_,g,rfl,_,congrArg (fun a=>Data.seq a _) (List.map_toArray).symm⟩ (show 0 < ps.length by rw [hlen]; exact Nat.succ_pos _) fun v h' tk hv hk=>k _ _ ⟨kept_ext hk,?_⟩
    obtain ⟨t,rfl⟩:=intItems_at hv
    obtain ⟨hle,hbest⟩:=argBest_gt (numAt ps.toArray) (ps.toArray.size - 1)
    have sz:ps.toArray.size - 1 < ps.length:=Nat.sub_lt (show 0 < ps.length by rw [hlen]; exact Nat.succ_pos _) Nat.one_pos
    obtain ⟨j,hj,e⟩:=mem_numAt (hps.symm ▸ hM)
    rw [show M=_ from Int.le_antisymm (e ▸ hbest j (Nat.le_sub_one_of_lt hj)) (hall _ (hps ▸ numAt_mem (Nat.lt_of_le_of_lt hle sz)))]
    exact .mk t
theorem b_max2 (hh:A.handled=none) {a b:Int} {d d':EV} {v v':Value} (ha:asI d.pv=some a) (hb:asI d'.pv=some b) (q:EVok C X s.heap d v) (q':EVok C X s.heap d' v') :
  Tr (model prog w) A (call (.builtin "max") [v,v']) s (ER C X s (.v (.int (bif decide (a < b) then b else a)))):=fun Q E k=>by
 cases int_read ha q
 cases int_read hb q'
 refine max_two_ints hh fun h' tk hk=>k _ _ ⟨kept_ext hk,?_⟩
 by_cases hab:a < b
 ·rw [if_pos hab,decide_eq_true hab]; exact .mk _
 ·rw [if_neg hab,decide_eq_false hab]; exact .mk _
theorem b_sum (hh:A.handled=none) {xs:List PV} {r:PV} {d:EV} {v:Value} (h:sumI 0 xs=some r) (hp:asL d.pv=some xs) (q:EVok C X s.heap d v):Tr (model prog w) A (call (.builtin "sum") [v]) s (ER C X s (.v r)):=fun Q E k=>by
 cases list_read hp q with | mk _ g r=>
 obtain ⟨ns,hn,rfl⟩:=sumI_some _ _ _ h
 obtain ⟨ps,rfl,hps⟩:=ints_arr ((intsP_are hn).2 r)
 refine sum_intListG (xs:=ps.toArray) hh ⟨_,g,rfl,_,congrArg (fun a=>Data.seq a _) (List.map_toArray).symm⟩ fun h' tk t' hk=>k _ _ ⟨kept_ext hk,?_⟩
 rw [preSum_eq,show ps.toArray.size=(ps.toArray.toList.map (·.1)).length from (List.length_map _).symm,List.take_length,show ps.toArray.toList.map (·.1)=ns from hps,Int.zero_add]
 exact .mk t'
theorem fresh_notX (hx:∀ a,X a → ∃ o,s.heap.get? a=some o) {a:Addr} (h:s.heap.objs.size ≤ a):¬ X a:=fun x=>(hx a x).elim fun o q=>Nat.lt_irrefl _ (Nat.lt_of_lt_of_le (Heap.lt_size q) h)
theorem b_sorted (hx:∀ a,X a → ∃ o,s.heap.get? a=some o) {xs l:List PV} {d:EV} {v:Value} (z:xs.length < 64) (h:sortP xs=some l) (hp:asL d.pv=some xs) (q:EVok C X s.heap d v):Tr (model prog w) A (call (.builtin "sorted") [v]) s (ER C X s (.v (.list l))):=fun Q E k=>by
 cases list_read hp q with | @mk a its n _ g r=>
 have h64:=r.length ▸ z
 have fin:∀ out:Array Value,Reps C X s.heap l out.toList → Q (.ref (s.heap.objs.size + 1)) { s with heap:=sortedAll s.heap its out }:=fun out q=>(sortedAll_at s.heap _ out).elim fun e he=>
  k _ _ ⟨⟨fun zz zz e zz=>sortedAll_old e,rfl,rfl⟩,.mk (fresh_notX hx (Nat.le_succ _)) he (Reps.keep (.nox fun zz zz e zz=>sortedAll_old e) l q)⟩
 have hl:s.heap.IsList a its.toArray:=⟨_,g,rfl,_,rfl⟩
 cases hi:intsP xs with
 | some ns=>
  rw [sortP,hi] at h
  exact sorted_ints hl ((intsP_are hi).2 r) h64 fun out ns' a1 a2 a3=>fin out (by rw [← Option.some.inj h,← sortZ_uniq a2 a3]; exact reps_ints a1)
 | none=>
  rw [sortP,hi] at h
  exact omap (G:=fun l=>(∀ out:Array Value,Reps C X s.heap l out.toList → Q (.ref (s.heap.objs.size + 1)) { s with heap:=sortedAll s.heap its out }) → _) h (fun ss hs fin=>sorted_strs hl ((strsP_are hs).2 r) h64 fun out ns' a1 a2 a3=>fin out (by rw [← sortS_uniq a2 a3]; exact reps_strs a1)) fin
theorem b_repr (hg:A.guards=some []) (hu:A.units + 100 < cLine) {r:List Nat} {d:EV} {v:Value} (h:reprP d.pv=some r) (q:EVok C X s.heap d v):Tr (model prog w) A (call (.builtin "repr") [v]) s (ER C X s (.v (.str r))):=
 obind h fun xs hx h=>oif h fun c h=>band c fun c c4=>band c fun c c3=>band c fun c1 c2=>osome h fun Q E k=>by
  have L:=okN_lay 8 _ c1
  obtain ⟨as,ra⟩:=L.reads (d:=.h xs) (list_read hx q)
  cases list_read hx q with | mk _ g _=>
  refine repr_of_reads' ra c2 (fun hh=>absurd (hh.symm.trans (bnot c3)) (by decide)) hg (by have:=L.l; show A.units + (toD (PV.list xs)).depth + 1 < cLine; omega) (fun zz zz e=>e) (fun h' u tk hk=>k _ _ ⟨kept_ext hk,.mk u⟩) (smallN_le c4)
theorem b_hex {i:Int} {r:List Nat} {d:EV} {v:Value} (h:hexP i=some r) (hp:asI d.pv=some i) (q:EVok C X s.heap d v):Tr (model prog w) A (call (.builtin "hex") [v]) s (ER C X s (.v (.str r))):=
 oif h fun c h=>osome h fun Q E k=>by
  cases int_read hp q
  exact PySem.P.hex_of_int (k _ _ ⟨Ext.tok _ _ _,.mk _⟩) (smallN_le c)
theorem b_tuple (hx:∀ a,X a → ∃ o,s.heap.get? a=some o) {xs:List PV} {d:EV} {v:Value} (z:smallN xs.length=true) (hp:asL d.pv=some xs) (q:EVok C X s.heap d v):Tr (model prog w) A (call (.type "tuple") [v]) s (ER C X s (.v (.tuple xs))):=fun Q E k=>by
 cases list_read hp q with | @mk a its n _ g r=>
 refine call_tuple_list ⟨_,g,rfl,_,rfl⟩ (fun h' hk=>k _ _ ?_) (sz_len z r)
 have k2:Keep NoX s.heap (h'.push (tupO its 0)):=Keep.trans (fun a o e zz=>hk a o e) (Keep.push NoX h' _)
 exact ⟨⟨k2,rfl,rfl⟩,.mk (fun x=>(hx _ x).elim fun o ho=>Nat.lt_irrefl _ (Heap.lt_size (hk _ _ ho))) (Heap.get?_push_size _ rfl) (Reps.keep (.nox k2) xs r)⟩
theorem b_bytes (hh:A.handled=none) {xs:List PV} {b:List Nat} {d:EV} {v:Value} (z:smallN xs.length=true) (h:bytesP xs=some b) (hp:asL d.pv=some xs) (q:EVok C X s.heap d v):Tr (model prog w) A (call (.type "bytes") [v]) s (ER C X s (.v (.bytes b))):=fun Q E k=>by
 cases list_read hp q with | mk _ g r=>
 obtain ⟨ns,hn,hr,rfl⟩:=bytesP_some _ _ h
 refine call_bytes_ints ⟨_,g,rfl,_,rfl⟩ ((intsP_are hn).2 r) hr (sz_len z r) hh fun h' t hk' hk=>k _ _ ⟨kept_ext hk,?_⟩
 rw [show byteArr ns=((ns.map Int.toNat).map fun c=>c.toUInt8).toArray by unfold byteArr; rw [List.map_map]; rfl]
 refine .mk t fun c hc=>?_
 obtain ⟨m,hm,rfl⟩:=List.mem_map.mp hc
 exact (Int.toNat_lt (hr m hm).1).mpr (hr m hm).2
end
theorem bor {α:Type} {c:Bool} {a b y:α} {G:Prop} (h:(bif c then a else b)=y) (k1:c=true → a=y → G) (k2:b=y → G):G:=by
 cases c with
 | true=>exact k1 rfl h
 | false=>exact k2 h
section
variable {prog:Program} {w:World} {C:Cx} {X:Addr → Prop} {s:Shared} {A:Around}
theorem bi_ {F:PV → Option PV} {ds:List EV} {vs:List Value} {d:PV} {f:Value} (h:bi1 F (ds.map EV.pv)=some d) (q:EVs C X s.heap ds vs)
  (k:∀ p e v,F p=some d → e.pv=p → EVok C X s.heap e v → Tr (model prog w) A (call f [v]) s (ER C X s (.v d))):Tr (model prog w) A (call f vs) s (ER C X s (.v d)):=
 obind h fun p hp h=>arg1 (G:=fun vs=>Tr (model prog w) A (call f vs) s (ER C X s (.v d))) hp q fun e v he qv=>k p e v h he qv
theorem builtin_ok (hB:Bud A) (hx:∀ a,X a → ∃ o,s.heap.get? a=some o) {f:Nm} {ds:List EV} {vs:List Value} {d:PV} (h:builtinP f (ds.map EV.pv)=some d) (q:EVs C X s.heap ds vs) :
  Tr (model prog w) A (call (fnV f) vs) s (ER C X s (.v d)):=by
 refine bor h (fun c h=>?_) fun h=>bor h (fun c h=>?_) fun h=>bor h (fun c h=>?_) fun h=>bor h (fun c h=>?_) fun h=>bor h (fun c h=>?_) fun h=>bor h (fun c h=>?_) fun h=>bor h (fun c h=>?_) fun h=>bor h (fun c h=>?_) fun h=>bor h (fun c h=>?_) fun h=>bor h (fun c h=>?_) fun h=>no h
 ·cases nmEq_of c
  exact bi_ h q fun p e v h he qv=>obind h fun n hn h=>oif h fun z h=>osome h (b_len hn z he qv)
 ·cases nmEq_of c
  cases ds with
  | nil=>exact no h
  | cons a ds=>cases ds with
   | nil=>cases q with | mk p q=>cases q; exact b_max1 hB.handled h rfl p
   | cons b ds=>cases ds with
    | nil=>cases q with | mk p q=>cases q with | mk p' q=>cases q; exact obind h fun x hx h=>omap h fun y hy=>b_max2 hB.handled hx hy p p'
    | cons c ds=>exact no h
 ·cases nmEq_of c
  exact bi_ h q fun p e v h he qv=>obind h fun l hl h=>b_sum hB.handled h (he ▸ hl) qv
 ·cases nmEq_of c
  exact bi_ h q fun p e v h he qv=>obind h fun l hl h=>omap h fun c hc Q E k=>by
   cases str_read (he ▸ hl) qv
   cases l with
   | nil=>exact no hc
   | cons a l=>cases l with
    | nil=>cases Option.some.inj hc; exact PySem.P.ord_of_char (k _ _ ⟨Ext.tok _ _ _,.mk _⟩)
    | cons b l=>exact no hc
 ·cases nmEq_of c
  exact bi_ h q fun p e v h he qv=>obind h fun i hi h=>oif h fun c h=>band c fun c1 c2=>osome h fun Q E k=>by
   cases int_read (he ▸ hi) qv
   exact PySem.P.chr_of_int (by have:=dec c1; have:=dec c2; simp; omega) (k _ _ ⟨Ext.tok _ _ _,.mk _⟩)
 ·cases nmEq_of c
  exact bi_ h q fun p e v h he qv=>obind h fun l hl h=>oif h fun z h=>omap h fun r hr=>b_sorted hx (dec z) hr (he ▸ hl) qv
 ·cases nmEq_of c
  exact bi_ h q fun p e v h he qv=>omap h fun r hr=>b_repr hB.guards hB.units (he ▸ hr) qv
 ·cases nmEq_of c
  exact bi_ h q fun p e v h he qv=>obind h fun i hi h=>omap h fun r hr=>b_hex hr (he ▸ hi) qv
 ·cases nmEq_of c
  exact bi_ h q fun p e v h he qv=>obind h fun l hl h=>oif h fun z h=>osome h (b_tuple hx z (he ▸ hl) qv)
 ·cases nmEq_of c
  exact bi_ h q fun p e v h he qv=>obind h fun l hl h=>oif h fun z h=>omap h fun r hr=>b_bytes hB.handled z hr (he ▸ hl) qv
end
section
variable {M:Model} {A:Around} {E:Value → Shared → Prop} {s:Shared} {env:Env}
theorem keepable_builtin (id:String):Keepable M A (.builtin id) s:=fun Q E h=>wpAny_pure (h _)
theorem keepable_type (id:String):Keepable M A (.type id) s:=fun Q E h=>wpAny_pure (h _)
theorem keepable_func {a:Addr} {o:Obj} {fd:FuncData} (ho:s.heap.get? a=some o) (hd:o.data=.func fd):Keepable M A (.ref a) s:=fun Q E h=>by
 unfold keeperOf
 refine wpAny_bind (wpAny_load ho ?_)
 rw [hd]
 exact wpAny_pure (h _)
theorem keepable_fnV (f:Nm):Keepable M A (fnV f) s:=by
 unfold fnV
 repeat' (first | exact keepable_builtin _ | exact keepable_type _ | (cases nmEq f _ <;> dsimp only [cond_true,cond_false]))
theorem callWith_gen {pos:Pos} {f:Value} {first:List Value} {args:List (Bool × Sem Value)} {Q:Value → Shared → Prop} (hplain:args.any (·.1)=false)
  (h:wpAny M A (evalArgs f true args []) (fun x s₁=>Keepable M A f s₁ ∧ wpAny M A (call f (first ++ x.pos) x.kw) Q E s₁) E s) :
  wpAny M A (callWith pos f first args []) Q E s:=by
 unfold callWith
 refine wpAny_bind (wpAny_holding (wpAny_mono h (fun x s₁ h₁=>wpAny_bind (wpAny_standAt ?_)) fun zz zz x=>x))
 have tail:∀ {t:Sem Value},wpAny M A t Q E s₁ → wpAny M A (t >>= fun r=>holding [r] point >>= fun zz=>pure r) Q E s₁:=
  fun ht=>wpAny_bind (wpAny_mono ht (fun r s₂ hr=>wpAny_bind (wpAny_holding (wpAny_point (wpAny_pure hr)))) fun zz zz x=>x)
 simp only [hplain,List.any_nil,Bool.or_false]
 refine wpAny_bind (h₁.1 _ _ fun k=>?_)
 cases k with
 | frame=>
  dsimp only
  split
  ·exact tail h₁.2
  ·exact tail (by unfold callMarked; exact Calls.wpAny_keep h₁.2)
 | boundFrame=>
  dsimp only
  split
  ·exact tail h₁.2
  ·exact tail (by unfold callMarked; exact Calls.wpAny_keep h₁.2)
 | machine=>exact tail h₁.2
 | caller=>exact tail (wpAny_operate' h₁.2)
theorem evalArgs_all {f:Value} {Q:Args → Shared → Prop}:∀ (args:List (Bool × Sem Value)),args.any (·.1)=false → wpAny M A (spliced args) (fun vs s'=>Q ⟨vs,[]⟩ s') E s → wpAny M A (evalArgs f true args []) Q E s
 | [],_,h=>by
  unfold evalArgs
  show wpAny M A (spliced [] >>= _) Q E s
  exact wpAny_bind (wpAny_mono h (fun vs s' h'=>wpAny_holding (wpAny_bind (wpAny_pure (wpAny_bind (wpAny_pure (wpAny_pure h')))))) fun zz zz x=>x)
 | (true,x) :: r,hp,_=>by cases hp
 | (false,x) :: r,_,h=>Calls.evalArgs_plain h
end
open PySem.Builtin.Str
section
variable {prog:Program} {w:World} {C:Cx} {X:Addr → Prop} {s:Shared} {A:Around}
theorem reps_strValues {h:Heap}:∀ (l:List (PySem.Str × Tok)),Reps C X h ((l.map (·.1)).map ofStr) (strValues l)
 | []=>rfl
 | (x,t) :: r=>⟨.mk t,reps_strValues r⟩
theorem strs_done (hx:∀ a,X a → ∃ o,s.heap.get? a=some o) {l:List (PySem.Str × Tok)} {ss:List PySem.Str} {k:Nat} (h:l.map (·.1)=ss) :
  ER C X s (.v (.list (ss.map ofStr))) (.ref s.heap.objs.size) { s with heap:=s.heap.push (listO (strValues l) 0),toks:=k }:=by
 subst h
 exact ⟨⟨Keep.push _ _ _,rfl,rfl⟩,.mk (fresh_notX hx (Nat.le_refl _)) (Heap.get?_push_size _ rfl) (reps_strValues l)⟩
theorem m_split0 (hx:∀ a,X a → ∃ o,s.heap.get? a=some o) {x:PySem.Str} {t:Tok} {d:List PV} (h:splitP x=some d) :
  Tr (model prog w) A (call (.builtin "str.split") [.str x t]) s (ER C X s (.v (.list d))):=oif h fun c h=>band c fun c1 c2=>osome h fun Q E k=>by
 refine call_meets F.slot_str_split (typeIs_str _ _ _) F.entry_str_split (F.args_str_split_1 _) (meets_str_split_space x t (smallN_le c1) (smallN_le c2)) ?_
 cases hw:spaceWords x (x.length + 1) == [(0,x.length)] with
 | false=>
  rw [if_neg Bool.false_ne_true,strsFrom_eq]
  exact k _ _ (strs_done hx ((numbered_texts _ _).trans (if_neg (ne_true_of_eq_false hw)).symm))
 | true=>
  rw [if_pos rfl]
  exact k _ _ (strs_done (l:=[(x,t)]) hx (if_pos hw).symm)
theorem m_split1 (hx:∀ a,X a → ∃ o,s.heap.get? a=some o) {x y:PySem.Str} {t u:Tok} {d:List PV} (h:splitAtP x y=some d) :
  Tr (model prog w) A (call (.builtin "str.split") [.str x t,.str y u]) s (ER C X s (.v (.list d))):=oif h fun c h=>band c fun c c2=>band c fun c1 hy=>osome h fun Q E k=>by
 cases h1:(decide (x.length < y.length) || decide (strKind x < strKind y)) with
 | true=>
  exact call_meets F.slot_str_split (typeIs_str _ _ _) F.entry_str_split (F.args_str_split_2 _ _) (meets_str_split_cannot_occur x y t u h1)
   (k _ _ (strs_done (l:=[(x,t)]) hx (if_pos h1).symm))
 | false=>
  cases hf:(occurrences x y 0 x.length (x.length + 1)).isEmpty with
  | true=>
   exact call_meets F.slot_str_split (typeIs_str _ _ _) F.entry_str_split (F.args_str_split_2 _ _) (meets_str_split_not_found x y t u h1 (bnot hy) hf)
    (k _ _ (strs_done (l:=[(x,t)]) hx ((if_neg (ne_true_of_eq_false h1)).trans (if_pos hf)).symm))
  | false=>
   refine call_meets F.slot_str_split (typeIs_str _ _ _) F.entry_str_split (F.args_str_split_2 _ _) (meets_str_split_sep x y t u h1 (bnot hy) hf (smallN_le c1) (smallN_le c2)) ?_
   show wants _ E _ { s with toks:=_,heap:=s.heap.push { cls:=.type "list",data:=.seq (strsFrom s.toks (partsBetween x (occurrences x y 0 x.length (x.length + 1)) y.length)).toArray } }
   rw [strsFrom_eq]
   exact k _ _ (strs_done hx ((numbered_texts _ _).trans ((if_neg (ne_true_of_eq_false h1)).trans (if_neg (ne_true_of_eq_false hf))).symm))
theorem m_join {x:List Nat} {t:Tok} {d:EV} {v:Value} {xs:List PV} {r:List Nat} (hp:asL d.pv=some xs) (q:EVok C X s.heap d v) (h:joinP x xs=some r) :
  Tr (model prog w) A (call (.builtin "str.join") [strV x t,v]) s (ER C X s (.v (.str r))):=obind h fun ys hys h=>oif h fun c h=>osome h fun Q E k=>by
 cases list_read hp q with | mk _ g rs=>
 exact PyProof.Rows.join_list ⟨_,g,rfl,_,rfl⟩ ((strsP_are hys).2 rs) (dec c) fun t' n=>k _ _ ⟨Ext.tok _ _ _,.mk t'⟩
theorem m_lower {x:PySem.Str} {t:Tok} {d:PV} (h:lowerP x=some d) :
  Tr (model prog w) A (call (.builtin "str.lower") [.str x t]) s (ER C X s (.v d)):=oif h fun c h=>osome h fun Q E k=>
 PyProof.Rows.SCL.lower (dec c) fun zz=>k _ _ ⟨Ext.tok _ _ _,.mk _⟩
structure IxOk (d:PV) (xs:List PV) (i:Nat) (y:PV):Prop where
 at_:xs[i]?=some y
 e:eqD y d=true
 n:∀ m z,m < i → xs[m]?=some z → eqD z d=false
theorem indexP_some {d:PV}:∀ (xs:List PV) (n j:Nat),indexP d xs n=some j → ∃ i,j=n + i ∧ ∃ y,IxOk d xs i y
 | [],n,j,h=>no h
 | x :: r,n,j,h=>obind h fun b hb h=>by
  have hb:eqD x d=b:=oif hb fun c h=>Option.some.inj h
  cases b with
  | true=>exact ⟨0,(Option.some.inj h).symm,x,rfl,hb,fun m y hm=>absurd hm (Nat.not_lt_zero _)⟩
  | false=>
   obtain ⟨i,rfl,y,h1⟩:=indexP_some r (n + 1) j h
   exact ⟨i + 1,Nat.succ_add_eq_add_succ n i,y,h1.at_,h1.e,fun m z hm hz=>by
    cases m with
    | zero=>exact Option.some.inj hz ▸ hb
    | succ m=>exact h1.n m z (Nat.lt_of_succ_lt_succ hm) hz⟩
theorem Reps.back {h:Heap} {xs:List PV} {its:List Value} (r:Reps C X h xs its) {m:Nat} {u:Value} (hu:its[m]?=some u):∃ y,xs[m]?=some y ∧ Rep C X h y u:=by
 have hlt:m < xs.length:=r.length ▸ (List.getElem?_eq_some_iff.mp hu).1
 obtain ⟨u',hu',hr⟩:=r.get m xs[m] (List.getElem?_eq_getElem hlt)
 cases hu.symm.trans hu'
 exact ⟨_,List.getElem?_eq_getElem hlt,hr⟩
theorem index_gen {a:Addr} {its:List Value} {n:Nat} {xs:List PV} {d:PV} {v:Value} {j:Nat} (g:s.heap.get? a=some (listO its n)) (r:Reps C X s.heap xs its) (hs:smallN xs.length=true) (e:Value → Bool)
  (he:∀ (y:PV) (u:Value),y ∈ xs → Rep C X s.heap y u → MeetsSeq.EqGives u v (e u) ∧ e u=eqD y d) (hi:indexP d xs 0=some j):Tr (model prog w) A (call (.builtin "list.index") [.ref a,v]) s (ER C X s (.v (.int (Int.ofNat j)))):=fun Q E k=>by
 obtain ⟨i,hi',y,h1⟩:=indexP_some xs 0 j hi
 obtain rfl:j=i:=hi'.trans (Nat.zero_add i)
 obtain ⟨u,hu,hur⟩:=r.get j y h1.at_
 have hlt:j < its.length:=(List.getElem?_eq_some_iff.mp hu).1
 refine call_meets F.slot_list_index ⟨_,g,rfl⟩ F.entry_list_index (F.args_list_index_2 _ _) (MeetsSeq.list_index a its.toArray n v e (fun u hu=>?_) j hlt (Int.lt_of_lt_of_le (Int.ofNat_lt.mpr (Nat.lt_of_lt_of_le hlt (sz_len hs r))) (by decide)) ?_ fun m hm hmj=>?_) ⟨g,k _ _ ⟨Ext.tok _ _ _,.mk _⟩⟩
 ·obtain ⟨m,hm,rfl⟩:=List.mem_iff_getElem.mp (List.mem_toArray.mp hu)
  obtain ⟨y,hy,hr⟩:=r.back (List.getElem?_eq_getElem hm)
  exact (he y _ (List.mem_of_getElem? hy) hr).1
 ·show e its[j]=true
  rw [(List.getElem?_eq_some_iff.mp hu).2,(he y u (List.mem_of_getElem? h1.at_) hur).2]
  exact h1.e
 ·obtain ⟨y',hy',hr'⟩:=r.back (List.getElem?_eq_getElem (show m < its.length from hm))
  show e its[m]=false
  rw [(he y' _ (List.mem_of_getElem? hy') hr').2]
  exact h1.n m y' hmj hy'
noncomputable def isI (k:Int) (u:Value):Bool:=match u with
 | .int i _=>i == k
 | _=>false
noncomputable def isS (k:List Nat) (u:Value):Bool:=match u with
 | .str i _=>i.cps.toList == k
 | _=>false
theorem list_beq (a b:List Nat):(a == b)=nmEq a b:=by
 cases h:nmEq a b with
 | true=>rw [nmEq_of h]; exact beq_self_eq_true _
 | false=>exact beq_eq_false_iff_ne.mpr fun e=>Bool.false_ne_true (h.symm.trans (by rw [e]; exact nmEq_self b))
theorem m_index {a:Addr} {its:List Value} {n:Nat} {xs:List PV} {d:EV} {v:Value} {j:Nat} (g:s.heap.get? a=some (listO its n)) (r:Reps C X s.heap xs its) (hs:smallN xs.length=true) (q:EVok C X s.heap d v) (h:idxP d.pv xs=some j) :
  Tr (model prog w) A (call (.builtin "list.index") [.ref a,v]) s (ER C X s (.v (.int (Int.ofNat j)))):=by
 generalize hp:d.pv=p at h
 cases p with
 | int k=>
  exact obind h fun ns hns h=>by
   cases int_read (congrArg asI hp) q with | mk t=>
   refine index_gen g r hs (isI k) (fun y u hy hr=>?_) h
   rw [(intsP_are (C:=C) (X:=X) (h:=s.heap) hns).1] at hy
   obtain ⟨i,_,rfl⟩:=List.mem_map.mp hy
   cases hr with | mk t'=>exact ⟨MeetsSeq.EqGives.int i k t' t,rfl⟩
 | str k=>
  exact obind h fun ns hns h=>by
   cases str_read (x:=k) (congrArg asS hp) q with | mk t=>
   refine index_gen g r hs (isS k) (fun y u hy hr=>?_) h
   rw [(strsP_are (C:=C) (X:=X) (h:=s.heap) hns).1] at hy
   obtain ⟨i,_,rfl⟩:=List.mem_map.mp hy
   cases hr with | mk t'=>exact ⟨SeqRoads2.EqGives.str ⟨i.cps.toList.toArray⟩ ⟨k.toArray⟩ t' t,list_beq _ _⟩
 | _=>exact no h
end
theorem s_split:mkS n_split=("split" : PySem.Str):=by decide +kernel
theorem s_lower:mkS n_lower=("lower" : PySem.Str):=by decide +kernel
theorem s_join:mkS n_join=("join" : PySem.Str):=by decide +kernel
theorem s_index:mkS n_index=("index" : PySem.Str):=by decide +kernel
theorem s_get:mkS n_get=("get" : PySem.Str):=by decide +kernel
section
variable {T:Th} {G:Gl} {σ:Sg} {A:Around} {X:Addr → Prop} {env:Env} {s:Shared} {F:Value → Shared → Prop} {Q:Value → Shared → Prop}
structure Stars (pos:Pos) (es:List E) (env:Env):Prop where
 any:(backTo pos (starEach (bs es) env)).any (·.1)=false
 all:(backTo pos (starEach (bs es) env)).all (fun x=>!x.1)=true
theorem stars {pos:Pos}:∀ {es:List E} {ds:List EV},allE (evs G es σ)=some ds → Stars pos es env
 | [],_,_=>⟨rfl,rfl⟩
 | e :: es,ds,h=>obind h fun d hd h=>omap (G:=fun zz=>Stars pos (e :: es) env) h fun m hm=>by
  have q:=stars (pos:=pos) hm
  have e1:=not_starred hd (bs es) env
  constructor
  ·show (backTo pos (starEach (e.b :: bs es) env)).any (·.1)=false
   rw [e1]; exact q.any
  ·show (backTo pos (starEach (e.b :: bs es) env)).all (fun x=>!x.1)=true
   rw [e1]; exact q.all
theorem callW {pos:Pos} {f:Value} {first:List Value} {es:List E} {ds:List EV} (hs:Each (ESound T G) es) (h:allE (evs G es σ)=some ds) (c:ECtx T G σ A X env s) (hk:∀ s,Keep NoX T.C.hb s.heap → Keepable (model T.prog T.w) A f s)
  (hc:∀ vs s',ERs T.C X s ds vs s' → wpAny (model T.prog T.w) A (PySem.call f (first ++ vs)) Q F s') :
  wpAny (model T.prog T.w) A (callWith pos f first (backTo pos (starEach (bs es) env)) []) Q F s:=
 callWith_gen (stars h).any (evalArgs_all _ (stars h).any (items_ok hs h c _ F fun vs s' q=>⟨hk s' (c.ext q.x).e.base,hc vs s' q⟩))
theorem each_pvs {os:List (Option EV)} {l:List PV} {G:Prop} (h:eachPV os=some l) (k:∀ ds,allE os=some ds → ds.map EV.pv=l → G):G:=by
 rw [each_pv] at h
 cases ha:allE os with
 | none=>rw [ha] at h; cases h
 | some ds=>rw [ha] at h; exact k ds ha (Option.some.inj h)
theorem mkV_some {d:PV} {r:EV} {G:EV → Prop} (h:mkV d=some r) (k:G (.v d)):G r:=oif h fun z h=>osome h k
theorem sCallB (hG:GlOk T G) {f:Nm} {fp p:Pos} {es:List E} (hs:Each (ESound T G) es):ESound T G (.callB f fp es p):=fun σ d h=>oif h fun g h=>band g fun g1 g2=>obind h fun l hl h=>obind h fun r hr h=>mkV_some (G:=EClaim T G (.callB f fp es p) σ) h fun A X env s c Q E k=>
 each_pvs hl fun ds hds el=>Call_ (gname hG g1 (hG.bname f g2) c (callW hs hds c (fun zz zz=>keepable_fnV f) fun vs s' q=>builtin_ok (hG.bud A c.pa) (c.ext q.x).e.bnd (el ▸ hr) q.r _ E fun v s2 q2=>k v s2 (.pre q.x q2)))
theorem sCallD (hG:GlOk T G) {f:Nm} {fp p:Pos} {es:List E} (hs:Each (ESound T G) es):ESound T G (.callD f fp es p):=fun σ d h=>oif h fun g h=>obind h fun l hl h=>omap h fun r hr A X env s c Q E k=>by
 cases hG.call _ _ _ hr with | mk gv fo=>
 exact Call_ (gname hG g gv c (callW hs (each_all hl) c (fun s b=>fo.keep A s b) fun vs s' q=>fo.run A X s' vs (c.ext q.x).at q.r.reps _ E fun v s2 q2=>k v s2 (.pre q.x q2)))
theorem base_ok {o:E} {name:PySem.Str} {m:Sem Value} (h:baseB o=true):attributeBase o.b name env m=m:=by
 cases o with
 | callB f fp es p=>cases es with
  | nil=>cases h
  | cons e r=>rfl
 | callD f fp es p=>cases es with
  | nil=>cases h
  | cons e r=>rfl
 | raw e=>cases h
 | _=>rfl
theorem callM {o:E} {name:PySem.Str} {ap pos:Pos} {es:List E} (hst:Stars pos es env) (hfew:(fewB es ap pos && baseB o)=true)
  (h:wpAny (model T.prog T.w) A (eval o.b env) (fun ov s₁=>∀ pl,wpAny (model T.prog T.w) A (getMethod ov name pl) (fun p s₂=>wpAny (model T.prog T.w) A (callWith pos p.1 p.2 (backTo pos (starEach (bs es) env)) []) Q F s₂) F s₁) F s) :
  wpAny (model T.prog T.w) A (eval (.Call (.Attribute o.b name ap) (bs es) [] pos) env) Q F s:=band hfew fun hfew hb=>band hfew fun hline hfew=>by
 rw [arm_eval_Call,base_ok hb]
 refine wpAny_bind (wpAny_mono h (fun ov s₁ h₁=>?_) fun zz zz e=>e)
 refine wpAny_bind (wpAny_standAt ?_)
 have hlen:∀ es:List E,(bs es).length=es.length:=fun es=>by
  induction es with
  | nil=>rfl
  | cons e r ih=>exact congrArg (· + 1) ih
 have hform:methodCallForm ((bs es).length + ([]:List Keyword).length) (backTo pos (starEach (bs es) env)) (backToKw pos (keywordEach [] env))=true:=by
  exact Bool.and_eq_true_iff.mpr ⟨Bool.and_eq_true_iff.mpr ⟨hst.all,rfl⟩,decide_eq_true (by have:=dec hfew; show (bs es).length + 0 + 0 < 30; rw [hlen]; omega)⟩
 have hpos:methodCallPos true o.b env ap pos=pure pos:=by unfold methodCallPos; rw [hline]; rfl
 unfold methodCall
 rw [hform]
 refine wpAny_bind (wpAny_holding ?_)
 unfold calleeOf
 rw [if_pos rfl]
 exact wpAny_mono (h₁ _) (fun p s₂ h₂=>wpAny_bind (wpAny_of_eq hpos h₂)) fun zz zz e=>e
end
section
variable {T:Th} {G:Gl} {σ:Sg} {A:Around} {X:Addr → Prop} {env:Env} {s:Shared} {pos:Pos} {es:List E} {ds:List EV} {ov:Value} {m:Nm} {d:PV}
noncomputable def MOk (T:Th) (A:Around) (X:Addr → Prop) (env:Env) (s:Shared) (pos:Pos) (es:List E) (ov:Value) (m:Nm) (d:PV):Prop:=∀ pl Q E,(∀ v s',ER T.C X s (.v d) v s' → Q v s') →
 wpAny (model T.prog T.w) A (getMethod ov (mkS m) pl) (fun p s₂=>wpAny (model T.prog T.w) A (callWith pos p.1 p.2 (backTo pos (starEach (bs es) env)) []) Q E s₂) E s
theorem by_builtin (hs:Each (ESound T G) es) (hds:allE (evs G es σ)=some ds) (c:ECtx T G σ A X env s) {Ty id:String} {name:PySem.Str} (hT:s.TypeIs ov Ty) (pa:PlainAttrs Ty) (hd:∀ a,ov=.ref a → ∃ o,s.heap.get? a=some o ∧ o.dict=none)
  (slot:PySem.Slot Ty name id) (hty:typeOf (.builtin id)=pure (.type "method_descriptor")) {x:Nm} (e:mkS x=name) (hm:nmEq m x=true)
  (hcall:∀ vs s',ERs T.C X s ds vs s' → Tr (model T.prog T.w) A (PySem.call (.builtin id) (ov :: vs)) s' (ER T.C X s' (.v d))):MOk T A X env s pos es ov m d:=fun pl Q E k=>by
 rw [nmEq_of hm,e]
 exact getMethod_builtin hT pa slot hty hd (callW hs hds c (fun zz zz=>keepable_builtin _) fun vs s' q=>hcall vs s' q _ E fun v s2 q2=>k v s2 (.pre q.x q2))
theorem strM_ok {z:List Nat} {t:Tok} (hs:Each (ESound T G) es) (hds:allE (evs G es σ)=some ds) (c:ECtx T G σ A X env s) (hm:strM m z (ds.map EV.pv)=some d):MOk T A X env s pos es (strV z t) m d:=by
 have by_ {d:PV} {id:String} {name:PySem.Str}:=@by_builtin T G σ A X env s pos es ds (strV z t) m d hs hds c "str" id name (typeIs_str _ _ _) F.plainAttrs_str (fun a ha=>by cases ha)
 cases ds with
 | nil=>
  refine bor hm (fun hk h=>omap (G:=fun d=>MOk T A X env s pos es (strV z t) m d) h fun l hl=>?_) fun h=>oif h fun hk h=>?_
  ·exact by_ F.slot_str_split F.type_str_split s_split hk fun vs s' q=>by
    cases q.r
    exact m_split0 (c.ext q.x).e.bnd hl
  ·exact by_ F.slot_str_lower F.type_str_lower s_lower hk fun vs s' q=>by
    cases q.r
    exact m_lower h
 | cons a r=>cases r with
  | nil=>
   refine bor (c:=nmEq m n_join) hm (fun hk h=>obind h fun xs hx h=>omap (G:=fun d=>MOk T A X env s pos es (strV z t) m d) h fun l hl=>?_) fun h=>oif h fun hk h=>obind h fun y hy h=>omap (G:=fun d=>MOk T A X env s pos es (strV z t) m d) h fun l hl=>?_
   ·exact by_ F.slot_str_join F.type_str_join s_join hk fun vs s' q=>by
     cases q.r with | mk p q'=>cases q'; exact m_join hx p hl
   ·exact by_ F.slot_str_split F.type_str_split s_split hk fun vs s' q=>by
     cases q.r with | mk p q'=>cases q'; cases str_read hy p; exact m_split1 (c.ext q.x).e.bnd hl
  | cons b r=>exact no hm
theorem method_ok {x:EV} (hs:Each (ESound T G) es) (hds:allE (evs G es σ)=some ds) (c:ECtx T G σ A X env s) (q:EVok T.C X s.heap x ov) (hm:methodP m x.pv (ds.map EV.pv)=some d):MOk T A X env s pos es ov m d:=by
 generalize hp:x.pv=p at hm
 cases p with
 | str z=>
  cases str_read (x:=z) (congrArg asS hp) q with | mk t=>exact strM_ok hs hds c hm
 | list z=>
  cases list_read (xs:=z) (congrArg asL hp) q with | @mk a its n _ g r=>
  exact obind hm fun y hy hm=>oif hm fun hk hm=>band hk fun hk hz=>omap hm fun j hj=>by_builtin hs hds c ⟨_,g,rfl⟩ F.plainAttrs_list (fun a ha=>by cases ha; exact ⟨_,g,rfl⟩) F.slot_list_index F.type_list_index s_index hk fun vs s' q=>by
   refine arg1 (G:=fun vs=>Tr (model T.prog T.w) A (PySem.call (.builtin "list.index") (.ref a :: vs)) s' _) hy q.r fun d1 v he qv=>?_
   exact m_index (q.x.keep _ _ g id) (Reps.keep (.nox q.x.keep) z r) hz qv (he ▸ hj)
 | _=>exact no hm
theorem RepF.none_ {h:Heap} {x:Nm}:∀ {fs:List (Nm × PV)} {m:PySem.Str → Option Value},RepF T.C X h fs m → lookN x fs=none → m (mkS x)=none
 | [],_,r,_=>r _
 | (y,d') :: fs,m,r,q=>by
  cases r with | mk a b e=>
  rw [e]
  cases k:nmEq y x with
  | true=>rw [show lookN x ((y,d') :: fs)=some d' by show (bif nmEq y x then _ else _)=_; rw [k]; rfl] at q; cases q
  | false=>
   rw [show lookN x ((y,d') :: fs)=lookN x fs by show (bif nmEq y x then _ else _)=_; rw [k]; rfl] at q
   exact (if_neg fun e=>Bool.false_ne_true (k.symm.trans (by rw [mkS_inj e]; exact nmEq_self y))).trans (RepF.none_ b q)
theorem inst_call (hG:GlOk T G) {l:List PV} {fs:List (Nm × PV)} (hs:Each (ESound T G) es) (hl:eachV (evs G es σ)=some l) (c:ECtx T G σ A X env s) (q:Rep T.C X s.heap (.inst fs) ov) (hn:lookN m fs=none) (hm:G.meth m (.inst fs :: l)=some d):MOk T A X env s pos es ov m d:=fun pl Q E k=>by
 obtain ⟨f,mo⟩:=hG.meth _ _ _ hm
 cases id q with | mk _ _ ne g oc od on nd rf=>
 exact mo.get A X s _ _ pl _ E c.at ⟨_,g,oc,on,.inr ⟨_,od,ne,nd⟩⟩ (rf.none_ hn) (callW hs (each_all hl) c (fun s b=>mo.fn.keep A s b) fun vs s' x=>mo.fn.run A X s' _ (c.ext x.x).at ⟨Rep.keep (.nox x.x.keep) (.inst fs) q,x.r.reps⟩ _ E fun v s2 q2=>k v s2 (.pre x.x q2))
theorem sMeth (hG:GlOk T G) {o:E} {ap p:Pos} (ho:ESound T G o) (hs:Each (ESound T G) es):ESound T G (.meth o m ap es p):=fun σ d h=>oif h fun hf h=>obind h fun x hx h A X env s c Q E k=>by
 have fin:∀ ds y,allE (evs G es σ)=some ds → (∀ v s₁,ER T.C X s x v s₁ → MOk T A X env s₁ p es v m y) → d=.v y → wpAny (model T.prog T.w) A (eval (Mine.V.E.meth o m ap es p).b env) Q E s:=fun ds y hds hk e=>by
  cases e
  exact callM (stars hds) hf (ho σ x hx A X env s c _ E fun v s₁ q pl=>hk v s₁ q pl Q E fun v s2 q2=>k v s2 (q.to q2))
 generalize hp:x.pv=xp at h
 cases hf:asF xp with
 | none=>
  rw [hf] at h
  exact obind h fun l hl h=>obind h fun y hy h=>each_pvs hl fun ds hds el=>fin ds y hds (fun v s₁ q=>method_ok hs hds (c.er q) q.r (by rw [hp,el]; exact hy)) (mkV_some (G:=fun d=>d=.v y) h rfl)
 | some fs=>
  rw [hf] at h
  have e:xp=.inst fs:=by cases xp <;> first | exact no hf | exact congrArg PV.inst (Option.some.inj hf)
  exact obind h fun l hl h=>oif h fun hn h=>omap (G:=fun d'=>d=d' → wpAny (model T.prog T.w) A (eval (Mine.V.E.meth o m ap es p).b env) Q E s) h (fun y hy e'=>fin _ y (each_all hl) (fun v s₁ q=>inst_call hG hs hl (c.er q) (pv_read _ (hp.trans e) q.r fun zz=>nofun) (Option.isNone_iff_eq_none.mp hn) hy) e') rfl
end
section
variable {T:Th} {G:Gl}
theorem in_set (hG:GlOk T G) {σ:Sg} {l:E} {x:Nm} {xp:Pos} {d:EV} (hl:ESound T G l) (h:inE G x (ev G l σ)=some d) {A:Around} {X:Addr → Prop} {env:Env} {s:Shared} (c:ECtx T G σ A X env s) {R:Prop}
  (k:∀ b,d=.v (.bool b) → (∀ Q E,(∀ v s',VR s (Value.bool b) v s' → Q v s') → wpAny (model T.prog T.w) A (eval l.b env) (fun v s₁=>wpAny (model T.prog T.w) A (eval (.Name (mkS x) xp) env) (fun u s₂=>wpAny (model T.prog T.w) A (compareOp .In v u) Q E s₂) E s₁) E s) → R):R:=
 obind h fun a ha h=>oif h fun hg h=>omap (G:=fun d'=>d=d' → R) h (fun b hb e=>k b e fun Q E k=>by
  cases hG.inSet _ _ _ hb with | mk gv r=>
  exact hl σ _ (valO_some ha) A X env s c _ E fun v s₁ q=>gname hG hg gv (c.er q) (r A X s₁ v (c.er q).at q.r _ E fun v' s₂ q2=>k _ _ ⟨q.x.trans q2.x,q2.e⟩)) rfl
theorem sInS (hG:GlOk T G) {l:E} {x:Nm} {xp p:Pos} (hl:ESound T G l):ESound T G (.inS l x xp p):=fun σ d h A X env s c=>in_set (xp:=xp) hG hl h c fun b e r Q E k=>by
 cases e
 show wpAny _ _ (eval (.Compare l.b [.In] (bs [.gname x xp]) p) env) Q E s
 rw [marks_ok rfl]
 exact wpAny_bind (wpAny_to (r _ E fun v s' q=>k v s' ⟨q.x,q.e⟩) fun v s₁ h=>chain_last h)
theorem tInS (hG:GlOk T G) {l:E} {x:Nm} {xp p:Pos} (hl:ESound T G l):TSound T G (.inS l x xp p):=fun σ b h=>obind h fun d hd h A X env s c=>in_set (xp:=xp) hG hl hd c fun b' e r Q E k=>by
 cases e
 cases h
 show wpAny _ _ (do testChain p (← eval l.b env) [.In] (markedEach [.In] (bs [.gname x xp]) (evalEach (bs [.gname x xp]) env))) Q E s
 rw [markedEach_of_false _ _ _ rfl]
 exact wpAny_bind (wpAny_to (r _ E fun v s' q=>truthy_is q.e (k _ _ ⟨q.x,rfl⟩)) fun v s₁ h=>test_last h)
theorem sGet (hG:GlOk T G) {x:Nm} {xp ap p:Pos} {es:List E} (hs:Each (ESound T G) es):ESound T G (.get x xp ap es p):=fun σ d h=>oif h fun g h=>band g fun hf hg=>obind h fun l hl h=>omap h fun r hr A X env s c Q E k=>by
 cases l with
 | nil=>exact no hr
 | cons kd l=>
  exact obind hr fun v hv hr=>by
   cases hG.tget _ _ _ hv with | mk gv t=>
   obtain ⟨a,rfl,t⟩:=t
   obtain ⟨ob,g2,g3,g4⟩:=t.obj
   have go:=c.e.base _ _ g2 id
   refine callM (o:=.gname x xp) (name:=mkS n_get) (stars (each_all hl)) (by rw [hf]; rfl) (gname hG hg gv c fun pl=>?_)
   rw [s_get]
   refine getMethod_builtin ⟨ob,go,g3⟩ F.plainAttrs_dict F.slot_dict_get F.type_dict_get (fun a' ha'=>by cases ha'; exact ⟨ob,go,g4⟩) (callW hs (each_all hl) c (fun zz zz=>keepable_builtin _) fun vs s' q=>?_)
   cases l with
   | nil=>
    cases hr
    cases q.r.reps with | mk p q'=>cases q'; exact t.one A X s' _ (c.ext q.x).at p _ E fun v s2 q2=>k v s2 (.pre q.x q2)
   | cons dd l=>cases l with
    | nil=>
     cases hr
     cases q.r.reps with | mk p q'=>cases q' with | mk p2 q'=>cases q'; exact t.two A X s' _ dd _ (c.ext q.x).at p p2 _ E fun v s2 q2=>k v s2 (.pre q.x q2)
    | cons _ _=>exact no hr
end
inductive FraO (K:Ks) (env:Env):Addr → Prop
 | loc:FraO K env env.locals
 | cell {y:PySem.Str} {a:Addr} (k:kindN (nm y) K=some .cell) (l:env.cells.lookup y=some a):FraO K env a
section
variable {C:Cx} {K:Ks} {X Y B B':Addr → Prop} {env:Env} {h h':Heap} {σ:Sg}
theorem FraO.fra {a:Addr} (h:FraO K env a):Fra env a:=by
 cases h with
 | loc=>exact .inl rfl
 | cell k l=>exact .inr ⟨_,l⟩
theorem NameAt.keepF {x:PySem.Str} {v:Value} (n:NameAt env h x v) (k:∀ a o,Fra env a → h.get? a=some o → h'.get? a=some o):NameAt env h' x v:=by
 cases n with
 | loc l n e=>obtain ⟨o,es,ep,ho,r⟩:=n; exact .loc l ⟨o,es,ep,k _ o (.inl rfl) ho,r⟩ e
 | cell l c e=>exact .cell l c (e.elim fun o q=>⟨o,k _ o (.inr ⟨_,c⟩) q.1,q.2⟩)
theorem Ns.uniq {a:Addr} {m m':PySem.Str → Option Value} (n:h.Ns a m) (n':h.Ns a m') (x:PySem.Str):m x=m' x:=by
 obtain ⟨o,es,ep,ho,hd,_,hf⟩:=n
 obtain ⟨o',es',ep',ho',hd',_,hf'⟩:=n'
 rw [ho] at ho'; cases ho'
 rw [hd] at hd'; cases hd'
 exact (hf x).symm.trans (hf' x)
theorem NameAt.uniq {x:PySem.Str} {v v':Value} (a:NameAt env h x v) (b:NameAt env h x v'):v=v':=by
 have no1:env.kindOf x=some .local → (env.kindOf x=some .cell ∨ (env.kindOf x=some .free ∧ (x == ("__classdict__" : PySem.Str))=false)) → False:=fun l k=>k.elim (fun k=>by rw [l] at k; cases k) fun k=>by rw [l] at k; cases k.1
 cases a with
 | loc l n e=>cases b with
  | loc l' n' e'=>exact Option.some.inj (e.symm.trans ((Ns.uniq n n' x).trans e'))
  | cell k c e=>exact (no1 l k).elim
 | cell k c e=>cases b with
  | loc l' n' e'=>exact (no1 l' k).elim
  | cell k' c' e'=>
   rw [c] at c'; cases c'
   obtain ⟨o,ho,hd⟩:=e
   obtain ⟨o',ho',hd'⟩:=e'
   rw [ho] at ho'; cases ho'
   rw [hd] at hd'; cases hd'; rfl
theorem EnvF.fra (e:EnvF C K X B env h σ) {a:Addr} (f:Fra env a):X a:=f.elim (fun q=>q ▸ e.locX) fun ⟨y,hy⟩=>(e.cellX y a hy).1
theorem EnvF.nsF (e:EnvF C K X B env h σ) (k:∀ a o,Fra env a → h.get? a=some o → h'.get? a=some o):∃ m,h'.Ns env.locals m:=by
 obtain ⟨m,o,es,ep,ho,r⟩:=e.ns
 exact ⟨m,o,es,ep,k _ o (.inl rfl) ho,r⟩
theorem EnvF.cellF (e:EnvF C K X B env h σ) (k:∀ a o,Fra env a → h.get? a=some o → h'.get? a=some o) (x:PySem.Str) (c:Addr) (hc:env.cells.lookup x=some c):∃ v,h'.IsCell c v:=by
 obtain ⟨v,o,q⟩:=(e.cellX x c hc).2.2
 exact ⟨v,o,k c o (.inr ⟨x,hc⟩) q.1,q.2⟩
theorem EnvF.old (e:EnvF C K X B env h σ) {a:Addr} {o:Obj} (x:X a) (g:C.hb.get? a=some o):False:=by
 have:=e.newB a x
 rw [g] at this
 cases this
theorem EnvF.move (e:EnvF C K X B env h σ) (k:Keep B h h') (s:∀ a o,h.get? a=some o → ¬ X a → ¬ Y a) (xy:∀ a o,h.get? a=some o → X a → ¬ B a → Y a) (bY:∀ a,B' a → Y a) (bb:∀ a o,h.get? a=some o → B' a → B a)
  (nb:∀ a,Y a → C.hb.get? a=none) (bnd:∀ a,Y a → ∃ o,h'.get? a=some o):EnvF C K Y B' env h' σ:=by
 have kF:∀ a o,Fra env a → h.get? a=some o → h'.get? a=some o:=fun a o f g=>k a o g (e.fB a f)
 have fY:∀ a,Fra env a → Y a ∧ ¬ B' a:=fun a f=>(e.bnd a (e.fra f)).elim fun o g=>⟨xy a o g (e.fra f) (e.fB a f),fun b=>e.fB a f (bb a o g b)⟩
 have fit:Fit X Y h h':=⟨fun a o g n=>k a o g fun b=>n (e.bX a b),s⟩
 obtain ⟨V,q⟩:=e.slots
 have kO:∀ x sl,lookN x σ=some sl → ∀ a,Owns h sl (V x) a → ∀ o,h.get? a=some o → h'.get? a=some o:=fun x sl hx a w o g=>k a o g (q.noB x sl hx a w)
 have yO:∀ x sl,lookN x σ=some sl → ∀ a,Owns h sl (V x) a → Y a ∧ ¬ B' a:=fun x sl hx a w=>by
  obtain ⟨xa,o,g⟩:=(q.ok x sl hx).owned a w
  exact ⟨xy a o g xa (q.noB x sl hx a w),fun b=>q.noB x sl hx a w (bb a o g b)⟩
 have back:∀ x sl,lookN x σ=some sl → ∀ a,Owns h' sl (V x) a → Owns h sl (V x) a:=fun x sl hx a w=>Owns.back (q.ok x sl hx) (kO x sl hx) w
 exact ⟨e.fn,e.glo,e.bui,fun a o g zz=>k a o (e.base a o g id) fun b=>e.old (e.bX a b) g,nb,e.nsF kF,(fY _ (.inl rfl)).1,fun x c hc=>⟨(fY c (.inr ⟨x,hc⟩)).1,(e.cellX x c hc).2.1,e.cellF kF x c hc⟩,e.apart,e.kinds,bnd,bY,fun a f=>(fY a f).2,V,
  ⟨fun x sl hx=>(q.at_ x sl hx).keepF kF,fun x sl hx=>(q.ok x sl hx).mono fit fun a w=>⟨(yO x sl hx a w).1,kO x sl hx a w⟩,fun x y sl sl' ne hx hy a wa wb=>q.apart x y sl sl' ne hx hy a (back x sl hx a wa) (back y sl' hy a wb),
   fun x sl hx a w=>q.fra x sl hx a (back x sl hx a w),fun x sl hx a w=>(yO x sl hx a (back x sl hx a w)).2⟩⟩
theorem EnvF.off (e:EnvF C K X B env h σ):EnvOk C K X env h σ:=
 ⟨e.fn,e.glo,e.bui,e.base,e.newB,e.ns,e.locX,e.cellX,e.apart,e.kinds,e.bnd,nofun,fun zz zz=>id,e.slots.elim fun V q=>⟨V,q.at_,q.ok,q.apart,q.fra,fun zz zz zz zz zz=>id⟩⟩
theorem EnvF.sub {σ':Sg} (e:EnvF C K X B env h σ') (hs:∀ x sl,lookN x σ=some sl → lookN x σ'=some sl):EnvF C K X B env h σ:=
 ⟨e.fn,e.glo,e.bui,e.base,e.newB,e.ns,e.locX,e.cellX,e.apart,e.kinds,e.bnd,e.bX,e.fB,e.slots.elim fun V q=>⟨V,fun x sl hx=>q.at_ x sl (hs x sl hx),fun x sl hx=>q.ok x sl (hs x sl hx),fun x y sl sl' ne hx hy=>q.apart x y sl sl' ne (hs x sl hx) (hs y sl' hy),fun x sl hx=>q.fra x sl (hs x sl hx),fun x sl hx=>q.noB x sl (hs x sl hx)⟩⟩
theorem put_cases {x y:Nm} {sl sl':Slot} {G:Prop} (h:lookN y (putN x sl' σ)=some sl) (k1:y=x → sl'=sl → G) (k2:y ≠ x → lookN y σ=some sl → G):G:=by
 rw [lookN_put] at h
 by_cases e:y=x
 ·rw [if_pos e] at h; exact k1 e (Option.some.inj h)
 ·rw [if_neg e] at h; exact k2 e h
structure Oth (x:Nm) (env:Env) (h h':Heap):Prop where
 ns:∃ m,h'.Ns env.locals m
 cells:∀ y c,env.cells.lookup y=some c → ∃ v,h'.IsCell c v
 oth:∀ y v,y ≠ x → NameAt env h (mkS y) v → NameAt env h' (mkS y) v
theorem EnvF.set {x:Nm} {sl':Slot} {v':Value} (e:EnvF C K X B env h σ) (fit:Fit X Y h h') (xy:∀ a,X a → Y a) (nb:∀ a,Y a → C.hb.get? a=none) (bnd:∀ a,Y a → ∃ o,h'.get? a=some o)
  (ot:Oth x env h h') (hname:NameAt env h' (mkS x) v') (hsl:SlotOk C Y h' sl' v') (own:∀ a,Owns h' sl' v' a → ¬ Fra env a ∧ ¬ B a)
  (hown:∀ V,Slots C X B env h σ V → ∀ y sl,y ≠ x → lookN y σ=some sl → ∀ a,Owns h sl (V y) a → (∀ o,h.get? a=some o → h'.get? a=some o) ∧ ¬ Owns h' sl' v' a):EnvF C K Y B env h' (putN x sl' σ):=by
 obtain ⟨V,q⟩:=e.slots
 have hown:=hown V q
 have back:∀ y sl,y ≠ x → lookN y σ=some sl → ∀ a,Owns h' sl (V y) a → Owns h sl (V y) a:=fun y sl ne hy a w=>Owns.back (q.ok y sl hy) (fun b wb=>(hown y sl ne hy b wb).1) w
 have Vx:(if x=x then v' else V x)=v':=if_pos rfl
 have Vy:∀ y,y ≠ x → (if y=x then v' else V y)=V y:=fun y ne=>if_neg ne
 refine ⟨e.fn,e.glo,e.bui,fun a o g zz=>fit.k a o (e.base a o g id) fun xa=>e.old xa g,nb,ot.ns,xy _ e.locX,fun y c hc=>⟨xy _ (e.cellX y c hc).1,(e.cellX y c hc).2.1,ot.cells y c hc⟩,e.apart,e.kinds,bnd,fun a b=>xy a (e.bX a b),e.fB,fun y=>if y=x then v' else V y,?_,?_,?_,?_,?_⟩
 ·exact fun y sl hy=>put_cases hy (fun e1 e2=>by subst e1; rw [Vx]; exact hname) fun ne hy=>by rw [Vy y ne]; exact ot.oth y _ ne (q.at_ y sl hy)
 ·exact fun y sl hy=>put_cases hy (fun e1 e2=>by subst e1; subst e2; rw [Vx]; exact hsl) fun ne hy=>by rw [Vy y ne]; exact (q.ok y sl hy).mono fit fun a w=>⟨xy a ((q.ok y sl hy).owned a w).1,(hown y sl ne hy a w).1⟩
 ·exact fun y z sl sl2 ne hy0 hz0 a=>put_cases hy0 (fun e1 e2=>by
   subst e1; subst e2
   exact put_cases hz0 (fun e1=>absurd e1.symm ne) fun nz hz=>by
    rw [Vx,Vy z nz]
    exact fun wa wb=>(hown z sl2 nz hz a (back z sl2 nz hz a wb)).2 wa) fun ny hy=>put_cases hz0 (fun e1 e2=>by
   subst e1; subst e2
   rw [Vx,Vy y ny]
   exact fun wa wb=>(hown y sl ny hy a (back y sl ny hy a wa)).2 wb) fun nz hz=>by
   rw [Vy y ny,Vy z nz]
   exact fun wa wb=>q.apart y z sl sl2 ne hy hz a (back y sl ny hy a wa) (back z sl2 nz hz a wb)
 ·exact fun y sl hy a=>put_cases hy (fun e1 e2=>by subst e1; subst e2; rw [Vx]; exact fun w=>(own a w).1) fun ne hy=>by rw [Vy y ne]; exact fun w=>q.fra y sl hy a (back y sl ne hy a w)
 ·exact fun y sl hy a=>put_cases hy (fun e1 e2=>by subst e1; subst e2; rw [Vx]; exact fun w=>(own a w).2) fun ne hy=>by rw [Vy y ne]; exact fun w=>q.noB y sl hy a (back y sl ne hy a w)
structure Own1 (C:Cx) (K:Ks) (X B:Addr → Prop) (env:Env) (h:Heap) (σ:Sg) (x:Nm) (sl:Slot) (v:Value):Prop where
 n:NameAt env h (mkS x) v
 r:SlotOk C X h sl v
 w:∀ a,Owns h sl v a → X a ∧ ¬ B a
 nf:∀ a,Owns h sl v a → ¬ Fra env a
 put:∀ h' sl',Keep (Owns h sl v) h h' → (∀ a,Owns h sl v a → ∃ o,h'.get? a=some o) → SlotOk C X h' sl' v → (∀ a,Owns h' sl' v a → Owns h sl v a) → EnvF C K X B env h' (putN x sl' σ)
theorem EnvF.own1 (e:EnvF C K X B env h σ) {x:Nm} {sl:Slot} (hx:lookN x σ=some sl):∃ v,Own1 C K X B env h σ x sl v:=by
 obtain ⟨V,q⟩:=e.slots
 have w:∀ a,Owns h sl (V x) a → X a ∧ ¬ B a:=fun a w=>⟨((q.ok x sl hx).owned a w).1,q.noB x sl hx a w⟩
 refine ⟨V x,q.at_ x sl hx,q.ok x sl hx,w,q.fra x sl hx,fun h' sl' k ex hs ow=>?_⟩
 have kF:∀ a o,Fra env a → h.get? a=some o → h'.get? a=some o:=fun a o f g=>k a o g fun w=>q.fra x sl hx a w f
 have bnd:∀ a,X a → ∃ o,h'.get? a=some o:=fun a xa=>(Classical.em (Owns h sl (V x) a)).elim (ex a) fun n=>(e.bnd a xa).elim fun o g=>⟨o,k a o g n⟩
 have hn:∀ y v,NameAt env h (mkS y) v → NameAt env h' (mkS y) v:=fun y v n=>n.keepF kF
 refine e.set (.of (k.mono fun a wa=>(w a wa).1)) (fun zz=>id) e.newB bnd ⟨e.nsF kF,e.cellF kF,fun y v zz=>hn y v⟩ (hn x _ (q.at_ x sl hx)) hs (fun a wa=>⟨q.fra x sl hx a (ow a wa),q.noB x sl hx a (ow a wa)⟩) fun V' q' y sl2 ne hy a wa=>?_
 have hv:V' y=V y:=NameAt.uniq (q'.at_ y sl2 hy) (q.at_ y sl2 hy)
 rw [hv] at wa
 exact ⟨fun o g=>k a o g fun wb=>q.apart y x sl2 sl ne hy hx a wa wb,fun wb=>q.apart y x sl2 sl ne hy hx a wa (ow a wb)⟩
end
structure StR (C:Cx) (K:Ks) (X B:Addr → Prop) (env:Env) (s:Shared) (σ:Sg) (s':Shared):Prop where
 x:Ext (FraO K env) s s'
 e:EnvF C K X B env s'.heap σ
section
variable {M:Model} {A:Around} {s:Shared} {C:Cx} {K:Ks} {X Y B:Addr → Prop} {env:Env} {σ:Sg} {x:Nm} {v:Value} {sl:Slot}
structure New (C:Cx) (X Y B:Addr → Prop) (env:Env) (h:Heap) (σ:Sg) (x:Nm) (sl:Slot) (v:Value):Prop where
 xy:∀ a,X a → Y a
 nf:∀ a o,h.get? a=some o → ¬ X a → ¬ Y a
 nb:∀ a,Y a → C.hb.get? a=none
 bnd:∀ a,Y a → ∃ o,h.get? a=some o
 ok:SlotOk C Y h sl v
 own:∀ a,Owns h sl v a → ¬ Fra env a ∧ ¬ B a
 oth:∀ V,Slots C X B env h σ V → ∀ y sl',y ≠ x → lookN y σ=some sl' → ∀ a,Owns h sl' (V y) a → ¬ Owns h sl v a
theorem New.fz (e:EnvF C K X B env s.heap σ) {d:PV} (hr:Rep C X s.heap d v):New C X X B env s.heap σ x (.fz d) v:=⟨fun zz=>id,fun zz zz zz=>id,e.newB,e.bnd,hr,fun zz w=>w.elim,fun zz zz zz zz zz zz zz zz=>id⟩
theorem New.fin {tk:Nat} (q:New C X Y B env s.heap σ x sl v) (e:EnvF C K X B env s.heap σ) {h':Heap} {b:Addr} (hb:FraO K env b) (hs:Heap.SameBut b s.heap h') (ex:∃ o,h'.get? b=some o) (ot:Oth x env s.heap h') (hn:NameAt env h' (mkS x) v):StR C K Y B env s (putN x sl σ) { s with heap:=h',toks:=tk }:=by
 have k:∀ a o,¬ Fra env a → s.heap.get? a=some o → h'.get? a=some o:=fun a o nf g=>(hs.2 a fun e=>nf (e ▸ hb.fra)).trans g
 have kX:Keep X s.heap h':=fun a o g nx=>k a o (fun f=>nx (e.fra f)) g
 have back:∀ a,Owns h' sl v a → Owns s.heap sl v a:=fun a w=>Owns.back q.ok (fun b wb o g=>k b o (q.own b wb).1 g) w
 refine ⟨⟨fun a o g n=>(hs.2 a fun e=>n (e ▸ hb)).trans g,rfl,rfl⟩,e.set ⟨kX,q.nf⟩ q.xy q.nb (fun a ya=>?_) ot hn (q.ok.mono ⟨fun a o g ny=>kX a o g fun xa=>ny (q.xy a xa),fun zz zz zz=>id⟩ fun a w=>⟨(q.ok.owned a w).1,fun o g=>k a o (q.own a w).1 g⟩) (fun a w=>q.own a (back a w)) fun V sv y sl' ne hy a w=>⟨fun o g=>k a o (sv.fra y sl' hy a w) g,fun w'=>q.oth V sv y sl' ne hy a w (back a w')⟩⟩
 by_cases h:a=b
 ·exact h ▸ ex
 ·exact (q.bnd a ya).elim fun o g=>⟨o,(hs.2 a h).trans g⟩
theorem store_at (e:EnvF C K X B env s.heap σ) (hs:stOk K x=true) (q:New C X Y B env s.heap σ x sl v):Tr M A (storeName env (mkS x) v) s (fun zz s'=>StR C K Y B env s (putN x sl σ) s'):=fun Q E k=>by
 have loc:∀ y c,env.cells.lookup y=some c → c ≠ env.locals:=fun y c hc=>(e.cellX y c hc).2.1
 have hkk:=e.kinds x
 cases hk:kindN x K with
 | none=>rw [stOk,hk] at hs; cases hs
 | some kd=>
  have hkk:=hkk kd hk
  rw [stOk,hk] at hs
  have ne_:∀ {y},y ≠ x → mkS y ≠ mkS x:=fun ne h=>ne (mkS_inj h)
  cases kd with
  | «local»=>
   obtain ⟨m,hm⟩:=e.ns
   refine wpAny_storeName_local hkk hm (fun h' hn' hs'=>k () _ ?_) (by rw [e.fn]; rfl)
   refine q.fin e .loc hs' (let ⟨o,_,_,ho,_⟩:=hn'; ⟨o,ho⟩) ⟨⟨_,hn'⟩,fun y c hc=>(e.cellX y c hc).2.2.elim fun v0 hv=>⟨v0,hv.sameBut hs' (loc y c hc)⟩,fun y v ne n=>?_⟩ (.loc hkk hn' (if_pos rfl))
   cases n with
   | loc l n' ev=>exact .loc l hn' ((if_neg (ne_ ne)).trans ((Ns.uniq hm n' _).trans ev))
   | cell l c hc=>exact .cell l c (hc.sameBut hs' (loc _ _ c))
  | cell=>
   obtain ⟨hkc,c,hc⟩:=hkk
   obtain ⟨v0,hv0⟩:=(e.cellX _ c hc).2.2
   refine wpAny_storeName_cell e.fn hkc hc hv0 fun h' hc' hs'=>k () _ ?_
   have lc:=loc _ _ hc
   refine q.fin e (.cell (y:=mkS x) hk hc) hs' (let ⟨o,ho,_⟩:=hc'; ⟨o,ho⟩) ⟨e.ns.elim fun m hm=>⟨m,hm.sameBut hs' lc.symm⟩,fun y c2 hc2=>?_,fun y v ne n=>?_⟩ (.cell (.inl hkc) hc hc')
   ·by_cases h:c2=c
    ·exact ⟨_,h ▸ hc'⟩
    ·exact (e.cellX y c2 hc2).2.2.elim fun v2 hv2=>⟨v2,hv2.sameBut hs' h⟩
   ·cases n with
    | loc l n' ev=>exact .loc l (n'.sameBut hs' lc.symm) ev
    | cell l c2 hv=>exact .cell l c2 (hv.sameBut hs' fun h=>ne_ ne (e.apart _ _ _ (h ▸ c2) hc))
  | _=>cases hs
end
inductive ItemOk (C:Cx) (X:Addr → Prop) (h:Heap) (t:Tg) (d:PV) (v:Value):Prop
 | fz (r:Rep C X h d v)
 | tup {ts:List NP} {k:Nat} {p:Pos} {ds:List PV} {a:Addr} {its:List Value} {n:Nat} (e:t=.tup ts k p) (e2:d=.tuple ds) (e3:v=.ref a) (g:h.get? a=some (tupO its n)) (r:Reps C X h ds its)
section
variable {prog:Program} {w:World} {A:Around} {s:Shared} {C:Cx} {K:Ks} {X B:Addr → Prop} {env:Env} {σ:Sg}
theorem StR.trans {s₁ s₂:Shared} {σ₁ σ₂:Sg} (a:StR C K X B env s σ₁ s₁) (b:StR C K X B env s₁ σ₂ s₂):StR C K X B env s σ₂ s₂:=⟨a.x.trans b.x,b.e⟩
theorem names_each:∀ ts:List NP,(assignEach (ts.map NP.b) env).length=ts.length ∧ (assignEach (ts.map NP.b) env).findIdx? (·.1)=none
 | []=>⟨rfl,rfl⟩
 | t :: r=>⟨congrArg (· + 1) (names_each r).1,by
   show List.findIdx? (·.1) ((false,_) :: assignEach (r.map NP.b) env)=none
   rw [List.findIdx?_cons,(names_each r).2]
   rfl⟩
theorem bindN_len:∀ {ts:List NP} {ds:List PV} {σ σ':Sg},bindN ts ds σ=some σ' → ts.length=ds.length
 | [],ds,σ,σ',h=>oif h fun c h=>by cases ds <;> first | rfl | cases c
 | t :: ts,[],σ,σ',h=>no h
 | t :: ts,d :: ds,σ,σ',h=>congrArg (· + 1) (bindN_len (ts:=ts) (ds:=ds) h)
theorem bindN_ok:∀ {ts:List NP} {ds:List PV} {vs:List Value} {σ σ':Sg} {s:Shared},namesT K ts=true → bindN ts ds σ=some σ' → EnvF C K X B env s.heap σ → Reps C X s.heap ds vs →
  Tr (model prog w) A (assignInOrder ((assignEach (ts.map NP.b) env).map (·.2)) vs) s (fun zz s'=>StR C K X B env s σ' s')
 | [],ds,vs,σ,σ',s,hn,hb,e,r=>oif hb fun c hb=>osome (G:=fun σ'=>Tr (model prog w) A _ s fun zz s'=>StR C K X B env s σ' s') hb fun Q E k=>by
  cases ds with
  | nil=>cases r; exact wpAny_pure (k _ _ ⟨Ext.refl _ _,e⟩)
  | cons d ds=>cases c
 | t :: ts,[],vs,σ,σ',s,hn,hb,e,r=>no hb
 | t :: ts,d :: ds,vs,σ,σ',s,hn,hb,e,r=>fun Q E k=>band hn fun h1 h2=>by
  cases r with | @mk v l p q=>
  show wpAny _ _ (do holding l (assign (.Name (mkS t.1) t.2) env v); assignInOrder ((assignEach (ts.map NP.b) env).map (·.2)) l) _ _ s
  refine wpAny_bind (wpAny_holding (wpAny_assign_Name (store_at e h1 (.fz e p) _ E fun zz s₁ q1=>?_)))
  exact bindN_ok h2 hb q1.e (Reps.keep (.of (q1.x.keep.mono fun a f=>e.fra f.fra)) ds q) _ E fun zz s₂ q2=>k _ _ (q1.trans q2)
theorem draw_list {it t:Addr} {items:Array Value} (hne:t ≠ it) {E:Value → Shared → Prop}:∀ (n i:Nat) (s:Shared) (Q:List Value → Shared → Prop),s.heap.IsListIter it t i → s.heap.IsList t items → i + n ≤ items.size →
  (∀ h',h'.IsListIter it t (i + n) → Heap.SameBut it s.heap h' → Q ((items.toList.drop i).take n) { s with heap:=h' }) → wpAny (model prog w) A (draw (.ref it) n) Q E s
 | 0,i,s,Q,hit,_,_,hQ=>wpAny_pure (hQ s.heap hit (Heap.SameBut.refl ..))
 | n + 1,i,s,Q,hit,ht,hle,hQ=>by
  have hlt:i < items.size:=Nat.lt_of_lt_of_le (Nat.lt_add_of_pos_right (Nat.succ_pos n)) hle
  refine wpAny_bind (wpAny_pyNext_list_item hit ht (Array.getElem?_eq_getElem hlt) fun h₁ hit₁ hs₁=>?_)
  refine wpAny_bind (wpAny_holding (draw_list hne n (i + 1) _ _ hit₁ (ht.extBut hs₁.extBut hne) (by rw [Nat.succ_add_eq_add_succ]; exact hle) fun h₂ hit₂ hs₂=>wpAny_pure ?_))
  have:=hQ h₂ (by rw [← Nat.succ_add_eq_add_succ]; exact hit₂) (hs₁.trans hs₂)
  rw [List.drop_eq_getElem_cons (show i < items.toList.length from hlt),List.take_succ_cons] at this
  exact this
theorem unpack_list {t:Addr} {items:Array Value} {targets:List (Bool × (Value → Sem Unit))} {Q:Unit → Shared → Prop} {E:Value → Shared → Prop} (hh:A.handled=none) (ht:s.heap.IsList t items)
  (hn:targets.length=items.size) (hstar:targets.findIdx? (·.1)=none)
  (h:∀ h',Heap.ExtBut s.heap.objs.size s.heap h' → wpAny (model prog w) A (assignInOrder (targets.map (·.2)) items.toList) Q E { s with heap:=h' }) :
  wpAny (model prog w) A (unpack (.ref t) targets) Q E s:=by
 have hlt:t ≠ s.heap.objs.size:=by obtain ⟨o,ho,_⟩:=ht; exact Nat.ne_of_lt (Heap.lt_size ho)
 unfold unpack
 rw [hn,hstar]
 refine wpAny_bind (wpAny_holding ?_)
 unfold unpackItems
 refine wpAny_bind ?_
 unfold notIterableAtAll
 refine wpAny_bind (wpAny_specialOf ht.typeIs slot_list_iter.lookup ?_)
 refine wpAny_pure ?_
 show wpAny _ _ (ite (false=true) _ _) _ _ _
 rw [if_neg Bool.false_ne_true]
 refine wpAny_bind (wpAny_holding (wpAny_pyIter_list ht ?_))
 refine wpAny_bind (wpAny_holding (draw_list hlt items.size 0 _ _ ⟨_,Heap.get?_push_size _ rfl,rfl,rfl⟩ (ht.push _) (by rw [Nat.zero_add]; exact Nat.le_refl _) fun h₁ hit₁ hs₁=>?_))
 rw [List.drop_zero,List.take_of_length_le (show items.toList.length ≤ items.size from Nat.le_refl _)]
 show wpAny _ _ (ite (items.size < items.size) _ _) _ _ _
 rw [if_neg (Nat.lt_irrefl _)]
 refine wpAny_bind (wpAny_holding (wpAny_pyNext_list_end hh hit₁ ((ht.push _).extBut hs₁.extBut hlt) (by rw [Nat.zero_add]; exact Array.getElem?_eq_none (Nat.le_refl _)) fun h₂ he₂=>?_))
 show wpAny _ _ (ite (false=true) _ _) _ _ _
 rw [if_neg Bool.false_ne_true]
 exact wpAny_pure (h h₂ fun b o hb e=>he₂ b o hb (hs₁.extBut b o hb (Heap.get?_push_of_some _ e)))
theorem ext_fresh {h':Heap} (hs:Heap.ExtBut s.heap.objs.size s.heap h'):Ext NoX s { s with heap:=h' }:=
 ⟨fun a o e zz=>hs a o (Nat.ne_of_lt (Heap.lt_size e)) e,rfl,rfl⟩
theorem bind_names {ts:List NP} {ds:List PV} {its:List Value} {σ':Sg} {Q:Unit → Shared → Prop} (hn:namesT K ts=true) (hb:bindN ts ds σ=some σ') (e:EnvF C K X B env s.heap σ) (r:Reps C X s.heap ds its) (k:∀ s',StR C K X B env s σ' s' → Q () s') {E:Value → Shared → Prop} {h':Heap} (hs:Heap.ExtBut s.heap.objs.size s.heap h') :
  wpAny (model prog w) A (assignInOrder ((assignEach (ts.map NP.b) env).map (·.2)) its) Q E { s with heap:=h' }:=
 have x:=ext_fresh hs
 bindN_ok hn hb (e.keep x.keep) (Reps.keep (.nox x.keep) ds r) _ E fun zz s₂ q=>k _ ⟨x.any.trans q.x,q.e⟩
theorem bind_tup (hh:A.handled=none) {ts:List NP} {ds:List PV} {its:List Value} {n k:Nat} {p:Pos} {a:Addr} {σ':Sg} (hn:namesT K ts=true) (hb:bindN ts ds σ=some σ') (e:EnvF C K X B env s.heap σ) (g:s.heap.get? a=some (tupO its n)) (r:Reps C X s.heap ds its) :
  Tr (model prog w) A (assign (Tg.tup ts k p).b env (.ref a)) s (fun zz s'=>StR C K X B env s σ' s'):=fun Q E k=>
 wpAny_assign_Tuple hh ⟨_,g,rfl,_,rfl⟩ ((names_each ts).1.trans ((bindN_len hb).trans r.length)) (names_each ts).2 fun h' hs=>bind_names hn hb e r (k ()) hs
theorem bind_ok (hh:A.handled=none) {t:Tg} {d:PV} {v:Value} {σ':Sg} (hb:bindT K t d σ=some σ') (e:EnvF C K X B env s.heap σ) (hi:ItemOk C X s.heap t d v) :
  Tr (model prog w) A (assign t.b env v) s (fun zz s'=>StR C K X B env s σ' s'):=by
 cases t with
 | nm x p=>
  cases hi with
  | fz r=>exact oif hb fun c hb=>osome (G:=fun σ'=>Tr (model prog w) A _ s fun zz s'=>StR C K X B env s σ' s') hb fun Q E k=>wpAny_assign_Name (store_at e c (.fz e r) _ E k)
  | tup e=>cases e
 | tup ts k p=>
  exact obind hb fun l hl hb1=>oif hb1 fun c hb2=>by
   cases hi with
   | fz r=>cases d with
    | tuple xs=>cases hl; cases r with | mk x g q=>exact bind_tup hh c hb2 e g q
    | list xs=>
     cases hl
     cases r with | mk x g q=>
     intro Q E k
     show wpAny _ _ (assign (.Tuple (ts.map NP.b) _ p) env _) _ _ _
     rw [arm_assign_Tuple]
     exact wpAny_bind (wpAny_standAt (unpack_list hh ⟨_,g,rfl,_,rfl⟩ ((names_each ts).1.trans ((bindN_len hb2).trans q.length)) (names_each ts).2 fun h' hs=>bind_names c hb2 e q (k ()) hs))
    | _=>exact no hl
   | tup e1 e2 e3 g r=>cases e1; cases e2; cases e3; cases hl; exact bind_tup hh c hb2 e g r
end
structure NextR (C:Cx) (t:Tg) (F:Addr → Prop) (St:(Addr → Prop) → List PV → Heap → Prop) (X:Addr → Prop) (d:PV) (l:List PV) (v:Value) (s s':Shared):Prop where
 x:Ext F s s'
 st:St X l s'.heap
 i:ItemOk C X s'.heap t d v
structure EndR (F:Addr → Prop) (s:Shared) (r:Option Value) (s':Shared):Prop where
 e:r=none
 x:Ext F s s'
structure IterOk (M:Model) (A:Around) (C:Cx) (t:Tg) (it:Value) (F:Addr → Prop) (St:(Addr → Prop) → List PV → Heap → Prop):Prop where
 keep:∀ X Y l h h',St X l h → Fit X Y h h' → (∀ a o,F a → h.get? a=some o → h'.get? a=some o) → St Y l h'
 next:∀ X d l s,St X (d :: l) s.heap → (∀ a,F a → X a) → ∀ Q E,(∀ v s₁,Tr M A (letOwnedTupleGo t.b it v) s₁ (fun zz s₂=>NextR C t F St X d l v s s₂) → Q (some v) s₁) → wpAny M A (pyNext it) Q E s
 done:∀ X s,St X [] s.heap → (∀ a,F a → X a) → Tr M A (pyNext it) s (EndR F s)
 self:∀ X l s Q E,St X l s.heap → Q it s → wpAny M A (pyIter it) Q E s
 live:∀ X l h,St X l h → ∀ a,F a → ∃ o,h.get? a=some o
inductive MadeI (M:Model) (A:Around) (C:Cx) (X:Addr → Prop) (t:Tg) (xs:List PV) (s:Shared) (it:Value) (s':Shared):Prop
 | mk {F:Addr → Prop} {St:(Addr → Prop) → List PV → Heap → Prop} (x:Ext NoX s s') (ok:IterOk M A C t it F St) (new:∀ a,F a → s.heap.get? a=none) (st:St (fun a=>X a ∨ F a) xs s'.heap):MadeI M A C X t xs s it s'
theorem MadeI.pre {M:Model} {A:Around} {C:Cx} {X:Addr → Prop} {t:Tg} {xs:List PV} {s s₁ s':Shared} {it:Value} (x:Ext NoX s s₁) (q:MadeI M A C X t xs s₁ it s'):MadeI M A C X t xs s it s':=by
 cases q with | @mk F St x' ok new st=>
 refine ⟨x.trans x',ok,fun a f=>?_,st⟩
 cases g:s.heap.get? a with
 | none=>rfl
 | some o=>exact absurd ((x.keep a o g id).symm.trans (new a f)) nofun
inductive WSt (C:Cx) (xs:List PV) (fp wr:List Addr) (n:Nat) (P:Nat → Value → Prop) (St₀:Nat → Heap → Prop) (X:Addr → Prop) (l:List PV) (h:Heap):Prop
 | mk {i:Nat} (hi:i ≤ n) (hl:l=xs.drop i) (st:St₀ i h) (r:∀ j v d,P j v → xs[j]?=some d → Rep C X h d v) (f:∀ a ∈ fp,a ∉ wr → ¬ X a ∧ ∃ o,h.get? a=some o):WSt C xs fp wr n P St₀ X l h
section
variable {prog:Program} {w:World} {A:Around} {C:Cx} {X:Addr → Prop} {s:Shared} {t:Tg}
theorem IterOk.of {I:Addr} {fp wr:List Addr} {n:Nat} {P:Nat → Value → Prop} {St₀:Nat → Heap → Prop} (W:Walks prog w A I fp wr n P St₀) {xs:List PV} (hn:xs.length=n)
  (hlive:∀ i h,St₀ i h → ∀ a ∈ wr,∃ o,h.get? a=some o) (hgo:∀ i (s:Shared) v (Q:Unit → Shared → Prop) E,P i v → St₀ (i + 1) s.heap → Q () s → wpAny (model prog w) A (letOwnedTupleGo t.b (.ref I) v) Q E s) :
  IterOk (model prog w) A C t (.ref I) (fun a=>a ∈ wr) (WSt C xs fp wr n P St₀) where
 keep:=fun X Y l h h' st fit kF=>by
  cases st with | mk hi hl st hr hf=>
  refine ⟨hi,hl,W.frame _ h h' st fun b hb o ho=>?_,fun j v d hP hd=>Rep.keep fit d (hr j v d hP hd),fun a ha hna=>?_⟩
  ·by_cases hbw:b ∈ wr
   ·exact kF b o hbw ho
   ·exact fit.k b o ho (hf b hb hbw).1
  ·obtain ⟨h1,o,ho⟩:=hf a ha hna
   exact ⟨fit.s a o ho h1,o,fit.k a o ho h1⟩
 next:=fun X d l s st hFX Q E k=>by
  cases st with | @mk i hi hl st hr hf=>
  have hlt:i < xs.length:=Nat.lt_of_not_le fun h=>by rw [List.drop_eq_nil_of_le h] at hl; cases hl
  rw [List.drop_eq_getElem_cons hlt] at hl
  injection hl with hd hl
  refine W.item i s _ E (hn ▸ hlt) st fun v h' tk hP st' hk=>k v _ fun Q' E' k'=>hgo i _ v _ E' hP st' (k' _ _ ?_)
  have kF:Keep (fun a=>a ∈ wr) s.heap h':=fun a o ho na=>hk a o na ho
  have fX:=Fit.of (kF.mono hFX)
  exact ⟨⟨kF,rfl,rfl⟩,⟨hn ▸ hlt,hl,st',fun j v d hP hd=>Rep.keep fX d (hr j v d hP hd),fun a ha hna=>⟨(hf a ha hna).1,(hf a ha hna).2.elim fun o ho=>⟨o,hk a o hna ho⟩⟩⟩,.fz (Rep.keep fX d (hr i v d hP (by rw [hd]; exact List.getElem?_eq_getElem hlt)))⟩
 done:=fun X s st zz Q E k=>by
  cases st with | @mk i hi hl st hr hf=>
  have hge:i=n:=Nat.le_antisymm hi (hn ▸ List.drop_eq_nil_iff.mp hl.symm)
  subst hge
  exact W.done s _ E st fun h' tk hk=>k _ _ ⟨rfl,⟨fun a o ho na=>hk a o na ho,rfl,rfl⟩⟩
 self:=fun X l s Q E st k=>by
  cases st with | mk hi hl st hr hf=>exact W.self _ s _ E st k
 live:=fun X l h st a ha=>by
  cases st with | mk hi hl st hr hf=>exact hlive _ h st a ha
theorem go_plain {it v:Value} {M:Model} {Q:Unit → Shared → Prop} {E:Value → Shared → Prop} (hv:∀ a,v ≠ .ref a) (h:Q () s):wpAny M A (letOwnedTupleGo t.b it v) Q E s:=by
 cases t with
 | nm x p=>exact wpAny_pure h
 | tup ts k p=>cases it with
  | ref a=>cases v with
   | ref b=>exact absurd rfl (hv b)
   | _=>exact wpAny_pure h
  | _=>exact wpAny_pure h
theorem made1 {o:Obj} {fp:List Addr} {n:Nat} {P:Nat → Value → Prop} {St₀:Nat → Heap → Prop} (W:Walks prog w A s.heap.objs.size fp [s.heap.objs.size] n P St₀) {xs:List PV} (hn:xs.length=n) (hlive:∀ i h,St₀ i h → ∃ o,h.get? s.heap.objs.size=some o)
  (hgo:∀ i (s':Shared) v (Q:Unit → Shared → Prop) E,P i v → St₀ (i + 1) s'.heap → Q () s' → wpAny (model prog w) A (letOwnedTupleGo t.b (.ref s.heap.objs.size) v) Q E s') (st:St₀ 0 (s.heap.push o))
  (r:∀ Y,(∀ a o,s.heap.get? a=some o → ¬ X a → ¬ Y a) → ∀ j v d,P j v → xs[j]?=some d → Rep C Y (s.heap.push o) d v) (f:∀ a ∈ fp,a ≠ s.heap.objs.size → ¬ X a ∧ ∃ ob,s.heap.get? a=some ob):MadeI (model prog w) A C X t xs s (.ref s.heap.objs.size) { s with heap:=s.heap.push o }:=by
 have e1:∀ {a:Addr},a ∈ [s.heap.objs.size] → a=s.heap.objs.size:=fun h=>List.mem_singleton.mp h
 have nx:∀ a o,s.heap.get? a=some o → ¬ X a → ¬ (X a ∨ a ∈ [s.heap.objs.size]):=fun a o g n h=>h.elim n fun h=>Nat.lt_irrefl _ (e1 h ▸ Heap.lt_size g)
 exact ⟨Ext.pushed _ _ _,IterOk.of W hn (fun i h st a ha=>e1 ha ▸ hlive i h st) hgo,fun a ha=>none_size (Nat.le_of_eq (e1 ha).symm),⟨Nat.zero_le _,rfl,st,r _ nx,fun a ha na=>by
  obtain ⟨h1,ob,h2⟩:=f a ha fun h=>na (List.mem_singleton.mpr h)
  exact ⟨nx a ob h2 h1,ob,Heap.get?_push_of_some _ h2⟩⟩⟩
theorem iter_val {d:PV} {v:Value} {xs:List PV} (hh:A.handled=none) (hi:itemsP d=some xs) (q:Rep C X s.heap d v):Tr (model prog w) A (pyIter v) s (MadeI (model prog w) A C X t xs s):=fun Q E k=>by
 cases d with
 | list ys=>
  cases hi
  cases q with | @mk a its n xa g r=>
  have hl:s.heap.IsList a its.toArray:=⟨_,g,rfl,n,rfl⟩
  refine wpAny_pyIter_list hl (k _ _ (made1 (Walks.list hh s.heap.objs.size a (Nat.ne_of_lt (Heap.lt_size g)) its.toArray) r.length (fun i h st=>st.1.elim fun o ho=>⟨o,ho.1⟩) (fun i s' v Q E' hP st h=>?_) ⟨⟨_,Heap.get?_push_size _ rfl,rfl,rfl⟩,hl.push _⟩ (fun Y hY j v d hP hd=>?_) fun b hb nb=>?_))
  ·cases t with
   | nm x p=>exact wpAny_pure h
   | tup ts k p=>cases v with
    | ref b=>exact wpAny_letOwnedTupleGo_listiter st.1 h
    | _=>exact wpAny_pure h
  ·obtain ⟨v',hv',hr⟩:=r.get j d hd
   cases hv'.symm.trans ((List.getElem?_toArray).symm.trans hP)
   exact Rep.keep ⟨Keep.push X _ _,hY⟩ d hr
  ·cases hb with
   | head=>exact absurd rfl nb
   | tail _ hb=>exact List.mem_singleton.mp hb ▸ ⟨xa,_,g⟩
 | str x=>
  cases hi
  cases q with | mk t0=>
  have sgn:∀ (ob:Obj) (Y:Addr → Prop),(∀ a o,s.heap.get? a=some o → ¬ X a → ¬ Y a) → ∀ (j:Nat) (v:Value) (d:PV),SignAt ⟨x.toArray⟩ j v → (x.map fun c=>PV.str [c])[j]?=some d → Rep C Y (s.heap.push ob) d v:=fun ob Y zz j v d hP hd=>by
   obtain ⟨c,u,hc,rfl⟩:=hP
   rw [List.getElem?_map] at hd
   exact omap (G:=fun d=>Rep C Y (s.heap.push ob) d (.str ⟨#[c]⟩ u)) hd fun c' hc'=>by
    cases hc'.symm.trans ((List.getElem?_toArray).symm.trans hc)
    exact .mk u
  refine wpAny_pyIter_strU ?_
  cases ha:(⟨x.toArray⟩:PySem.Str).cps.all (· < 128) with
  | false=>
   simp only [strIterType,ha,Bool.false_eq_true,if_false]
   refine k _ _ (made1 (Walks.strWide hh s.heap.objs.size ⟨x.toArray⟩ t0) (List.length_map _) (fun i h st=>st.elim fun o ho=>⟨o,ho.1⟩) (fun i s' v Q E' hP st h=>?_) ⟨_,Heap.get?_push_size _ rfl,rfl,rfl⟩ (sgn _) fun b hb nb=>absurd (List.mem_singleton.mp hb) nb)
   obtain ⟨c,u,_,rfl⟩:=hP
   exact go_plain (fun zz=>nofun) h
  | true=>
   simp only [strIterType,ha,if_true]
   refine k _ _ (made1 (Walks.strAscii hh s.heap.objs.size ⟨x.toArray⟩ t0) (List.length_map _) (fun i h st=>st.elim fun o ho=>⟨o,ho.1⟩) (fun i s' v Q E' hP st h=>?_) ⟨_,Heap.get?_push_size _ rfl,rfl,rfl⟩ (sgn _) fun b hb nb=>absurd (List.mem_singleton.mp hb) nb)
   obtain ⟨c,u,_,rfl⟩:=hP
   exact go_plain (fun zz=>nofun) h
 | _=>exact no hi
end
theorem rangeGo_get:∀ (n:Nat) (a c:Int) (j:Nat) (d:PV),(rangeGo a c n)[j]?=some d → d=.int (a + j * c)
 | 0,_,_,_,_,h=>no h
 | n + 1,a,c,0,d,h=>(Option.some.inj h).symm.trans (congrArg PV.int (by rw [Int.ofNat_zero,Int.zero_mul,Int.add_zero]))
 | n + 1,a,c,j + 1,d,h=>(rangeGo_get n (a + c) c j d h).trans (congrArg PV.int (by rw [Int.natCast_succ,Int.add_mul,Int.one_mul,Int.add_assoc,Int.add_comm c]))
theorem rangeGo_len:∀ (n:Nat) (a c:Int),(rangeGo a c n).length=n
 | 0,_,_=>rfl
 | n + 1,a,c=>congrArg (· + 1) (rangeGo_len n (a + c) c)
structure RangeOk (a b c:Int) (xs:List PV) (n:Nat):Prop where
 sm:Builtin.Range.small a b c=true
 nz:c ≠ 0
 lg:c.natAbs.log2 < 9000
 sz:Builtin.Range.rangeSize a b c=n
 le:n ≤ 16777216
 e:xs=rangeGo a c n
theorem rangeP_some {a b c:Int} {xs:List PV} (h:rangeP a b c=some xs):∃ n,RangeOk a b c xs n:=oif h fun k h=>band k fun k k5=>band k fun k k4=>band k fun k k3=>band k fun k1 k2=>by
 have h4:=Int.toNat_of_nonneg (dec k4)
 exact ⟨_,k1,ne_of_beq_false (bnot k2),dec k3,h4.symm,Int.ofNat_le.mp (h4.symm ▸ dec k5),(Option.some.inj h).symm⟩
inductive RangeR (xs:List PV) (s:Shared) (v:Value) (s':Shared):Prop
 | mk {ra:Addr} {a b c:Int} {t u z:Tok} {n:Nat} (x:Ext NoX s s') (e:v=.ref ra) (g:IsRange s'.heap ra a b c t u z) (p:RangeOk a b c xs n):RangeR xs s v s'
section
variable {T:Th} {G:Gl} {σ:Sg} {A:Around} {X:Addr → Prop} {env:Env} {s:Shared} {t:Tg} {xs:List PV}
theorem range_make {prog:Program} {w:World} {ns:List Int} {its:List Value} (h:rangeI ns=some xs) (r:IntsAre its ns):Tr (model prog w) A (PySem.call (.type "range") its) s (RangeR xs s):=fun Q E k=>by
 cases r with
 | nil=>exact no h
 | cons a t r=>cases r with
  | nil=>exact (rangeP_some h).elim fun n p=>call_range_1 (k _ _ (.mk ⟨Keep.push _ _ _,rfl,rfl⟩ rfl (IsRange.new _ _ _ _ _ _ _) p))
  | cons b u r=>cases r with
   | nil=>exact (rangeP_some h).elim fun n p=>call_range_2 (k _ _ (.mk ⟨Keep.push _ _ _,rfl,rfl⟩ rfl (IsRange.new _ _ _ _ _ _ _) p))
   | cons c z r=>cases r with
    | nil=>exact (rangeP_some h).elim fun n p=>call_range_3 p.nz (k _ _ (.mk ⟨Keep.push _ _ _,rfl,rfl⟩ rfl (IsRange.new _ _ _ _ _ _ _) p)) (.inl (PyProof.noPylong_of_log2 p.lg))
    | cons d y r=>exact no h
theorem range_call (hG:GlOk T G) {fp p:Pos} {es:List E} (hs:Each (ESound T G) es) (hg:isGl G.sc n_range=true) (h:rangeA (eachV (evs G es σ))=some xs) (c:ECtx T G σ A X env s) :
  Tr (model T.prog T.w) A (eval (.Call (.Name (mkS n_range) fp) (bs es) [] p) env) s (RangeR xs s):=obind h fun l hl h=>obind h fun ns hn h Q E k=>
 Call_ (gname hG hg (hG.bval (n_range,_) (.head _)) c (callW hs (each_all hl) c (fun zz zz=>keepable_type _) fun vs s' q=>range_make h ((intsP_are hn).2 q.r.reps) _ E fun v s2 r=>k v s2 (by cases r with | mk x e g p=>exact ⟨q.x.trans x,e,g,p⟩)))
theorem iter_range {prog:Program} {w:World} {C:Cx} {r:Addr} {a b c:Int} {tk u v:Tok} {n:Nat} (hh:A.handled=none) (p:RangeOk a b c xs n) (g:IsRange s.heap r a b c tk u v) :
  Tr (model prog w) A (pyIter (.ref r)) s (MadeI (model prog w) A C X t xs s):=fun Q E k=>by
 refine wpAny_pyIter_range g p.sm (k _ _ (made1 (Walks.range hh s.heap.objs.size a c n) (p.e ▸ rangeGo_len n a c) (fun i h st=>⟨_,st⟩) (fun i s' v Q E' hP st h=>?_) ?_ (fun Y zz j v d hP hd=>?_) fun b hb nb=>absurd (List.mem_singleton.mp hb) nb))
 ·obtain ⟨u,rfl⟩:=hP
  exact go_plain (fun zz=>nofun) h
 ·show _=_
  rw [Heap.get?_push_size _ rfl,p.sz]
  simp
 ·obtain ⟨u,rfl⟩:=hP
  rw [p.e] at hd
  rw [rangeGo_get n a c j d hd]
  exact .mk u
theorem Reps.of_get {C:Cx} {h:Heap}:∀ {xs:List PV} {its:List Value},xs.length=its.length → (∀ (j:Nat) (d:PV) (v:Value),xs[j]?=some d → its[j]?=some v → Rep C X h d v) → Reps C X h xs its
 | [],its,hl,_=>List.length_eq_zero_iff.mp hl.symm
 | d :: xs,[],hl,_=>nomatch hl
 | d :: xs,v :: its,hl,hr=>⟨hr 0 d v rfl rfl,Reps.of_get (Nat.succ.inj hl) fun j d v hd hv=>hr (j + 1) d v hd hv⟩
theorem sLrange (hG:GlOk T G) {fp gp rp p:Pos} {es:List E} (hs:Each (ESound T G) es):ESound T G (.lrange fp gp es rp p):=fun σ d h=>oif h fun g h=>band g fun g1 g2=>obind h fun xs hx h=>mkV_some (G:=EClaim T G (.lrange fp gp es rp p) σ) h fun A X env s c Q E k=>by
 refine Call_ (gname hG g1 (hG.bval (n_list,_) (.tail _ (.head _))) c (callWith_gen rfl (evalArgs_all _ rfl (wpAny_items_cons (range_call hG hs g2 hx c _ E fun v s₁ q=>wpAny_items_nil ⟨keepable_type _,?_⟩) rfl))))
 cases q with | @mk ra a b c' t u z n x e g p=>
 cases e
 refine call_list_range (hG.bud A c.pa).handled g p.sm p.sz p.le fun h' tk acc' n' hk hl hi=>k _ _ (.pre x ⟨kept_ext hk,.mk (c.ext x).e.newX hl (Reps.of_get ?_ fun j d v hd hv=>?_)⟩)
 ·rw [p.e,rangeGo_len]; exact hi.1.symm
 ·rw [p.e] at hd
  rw [rangeGo_get n a c' j d hd]
  obtain ⟨t,rfl⟩:=hi.2 j v (Array.getElem?_toList.symm.trans hv)
  exact .mk t
noncomputable def ISound (T:Th) (G:Gl) (it:It) (t:Tg):Prop:=∀ σ xs,iterOf G it σ=some xs → ∀ A X env s,ECtx T G σ A X env s → ∀ Q E,(∀ v s₁,Tr (model T.prog T.w) A (pyIter v) s₁ (MadeI (model T.prog T.w) A T.C X t xs s) → Q v s₁) → wpAny (model T.prog T.w) A (eval it.b env) Q E s
theorem iVal (hG:GlOk T G) {e:E} (he:ESound T G e):ISound T G (.val e) t:=fun σ xs h A X env s c Q E k=>obind h fun d hd h=>he σ _ (valO_some hd) A X env s c Q E fun v s₁ q=>k v s₁ fun Q' E' k'=>iter_val (hG.bud A c.pa).handled h q.r Q' E' fun it s₂ m=>k' it s₂ (m.pre q.x)
theorem iRange (hG:GlOk T G) {fp p:Pos} {es:List E} (hs:Each (ESound T G) es):ISound T G (.range fp es p) t:=fun σ xs h A X env s c Q E k=>oif h fun g h=>range_call hG hs g h c Q E fun v s₁ q=>k v s₁ fun Q' E' k'=>by
 cases q with | mk x e g p=>
 cases e
 exact iter_range (hG.bud A c.pa).handled p g Q' E' fun it s₂ m=>k' it s₂ (m.pre x)
end
noncomputable abbrev ZE:=Addr × Addr × List Value
inductive ZR (C:Cx) (X:Addr → Prop) (h:Heap) (k:Nat):List ZE → List (List PV) → Prop
 | nil:ZR C X h k [] []
 | cons {q:ZE} {d:List PV} {qs:List ZE} {ds:List (List PV)} {n:Nat} (it:h.IsListIter q.1 q.2.1 k) (g:h.get? q.2.1=some (listO q.2.2 n)) (x:¬ X q.2.1) (r:Reps C X h d (q.2.2.drop k)) (t:ZR C X h k qs ds):ZR C X h k (q :: qs) (d :: ds)
noncomputable abbrev its (qs:List ZE):List Addr:=qs.map (·.1)
theorem ZR.move {C:Cx} {X Y:Addr → Prop} {h h':Heap} {k:Nat} {qs:List ZE} {ds:List (List PV)} (r:ZR C X h k qs ds) (fit:Fit X Y h h') (kI:∀ a ∈ its qs,∀ o,h.get? a=some o → h'.get? a=some o):ZR C Y h' k qs ds:=by
 induction r with
 | nil=>exact .nil
 | cons it g x r t ih=>exact .cons (it.at fun o e=>kI _ (.head _) o e) (fit.k _ _ g x) (fit.s _ _ g x) (Reps.keep fit _ r) (ih fun a ha=>kI a (.tail _ ha))
theorem ZR.live {C:Cx} {X:Addr → Prop} {h:Heap} {k:Nat} {qs:List ZE} {ds:List (List PV)} (r:ZR C X h k qs ds):∀ a ∈ its qs,∃ o,h.get? a=some o:=by
 induction r with
 | nil=>exact nofun
 | cons it g x r t ih=>
  intro a ha
  cases ha with
  | head=>obtain ⟨o,ho,_⟩:=it; exact ⟨o,ho⟩
  | tail _ ha=>exact ih a ha
section
variable {prog:Program} {w:World} {A:Around} {C:Cx} {X:Addr → Prop} {z TI TO:Addr} {k:Nat}
noncomputable def ZStep (M:Model) (A:Around) (z TI TO:Addr) (k:Nat) {β:Type} (f:Value × Nat → β → Sem (ForInStep β)) (b:β):Prop:=
 ∀ (q:ZE) (n:Nat) (pre post:List Value) (u:Value) (s:Shared) (Q:ForInStep β → Shared → Prop) (E:Value → Shared → Prop),IsZip s.heap z TI TO .ellipsis → s.heap.IsListIter q.1 q.2.1 k → s.heap.get? q.2.1=some (listO q.2.2 n) → s.heap.get? TO=some (tupO (pre ++ u :: post) 0) →
  q.1 ≠ z → q.1 ≠ TO → (pre ++ u :: post).length < 9 → (∀ x h',q.2.2[k]?=some x → h'.IsListIter q.1 q.2.1 (k + 1) → h'.get? TO=some (tupO (pre ++ x :: post) 0) → (∀ c o,c ≠ q.1 → c ≠ TO → s.heap.get? c=some o → h'.get? c=some o) → Q (.yield b) { s with heap:=h' }) →
  (∀ h' e,q.2.2[k]?=none → (∀ c o,c ≠ q.1 → c ≠ z → s.heap.get? c=some o → h'.get? c=some o) → (∃ o,h'.get? e=some o ∧ o.cls=.type "StopIteration") → E (.ref e) { s with heap:=h' }) → wpAny M A (f (.ref q.1,pre.length) b) Q E s
theorem heads_some {ds:List (List PV)} {hs:List PV} {d:List PV} {G:Prop} (h:heads (d :: ds)=some hs) (k:∀ x r t,d=x :: r → heads ds=some t → hs=x :: t → G):G:=by
 cases d with
 | nil=>exact no h
 | cons x r=>exact omap (G:=fun h'=>hs=h' → G) (show (heads ds).map _=some hs from h) (fun t ht e=>k x r t rfl ht e) rfl
theorem zloop {M:Model} {β:Type} {f:Value × Nat → β → Sem (ForInStep β)} {b:β} (hf:ZStep M A z TI TO k f b) (hz:X z) (hTO:X TO) {E:Value → Shared → Prop} {qs:List ZE} {ds:List (List PV)}:∀ {pre post:List Value} {s:Shared} {Q:β → Shared → Prop},(z :: TO :: its qs).Nodup → (∀ a ∈ its qs,X a) → ZR C X s.heap k qs ds →
  s.heap.get? TO=some (tupO (pre ++ post) 0) → IsZip s.heap z TI TO .ellipsis → post.length=qs.length → (pre ++ post).length < 9 →
  (∀ hs vs h',vs.length=qs.length → heads ds=some hs → ZR C X h' (k + 1) qs (ds.map List.tail) → Reps C X h' hs vs → h'.get? TO=some (tupO (pre ++ vs) 0) → (∀ c o,c ≠ TO → c ∉ its qs → s.heap.get? c=some o → h'.get? c=some o) → Q b { s with heap:=h' }) →
  (∀ h' e,heads ds=none → (∀ c o,c ≠ z → c ≠ TO → c ∉ its qs → s.heap.get? c=some o → h'.get? c=some o) → (∃ o,h'.get? e=some o ∧ o.cls=.type "StopIteration") → E (.ref e) { s with heap:=h' }) →
  wpAny M A (forIn ((qs.map fun q=>Value.ref q.1).zipIdx pre.length) b f) Q E s:=by
 induction qs generalizing ds with
 | nil=>
  intro pre post s Q nd xi r gT gz hl h9 kS kE
  cases r
  cases List.eq_nil_of_length_eq_zero hl
  rw [show ([].map fun q:ZE=>Value.ref q.1).zipIdx pre.length=[] from rfl,List.forIn_nil]
  exact wpAny_pure (kS [] [] s.heap rfl rfl .nil rfl gT fun zz zz zz zz=>id)
 | cons q qs ih=>
  intro pre post s Q nd xi r gT gz hl h9 kS kE
  cases post with
  | nil=>cases hl
  | cons u post=>
  cases r with | @cons _ d _ ds n it g x r t=>
  have xq:=xi _ (.head _)
  have nz:=List.nodup_cons.mp nd
  have nT:=List.nodup_cons.mp nz.2
  have nq:q.1 ∉ its qs ∧ (its qs).Nodup:=List.nodup_cons.mp nT.2
  have nT1:TO ∉ its qs:=fun h=>nT.1 (.tail _ h)
  have qz:q.1 ≠ z:=fun e=>nz.1 (e ▸ .tail _ (.head _))
  have qT:q.1 ≠ TO:=fun e=>nT.1 (e ▸ .head _)
  have zT:z ≠ TO:=fun e=>nz.1 (e ▸ .head _)
  rw [show ((q :: qs).map fun q:ZE=>Value.ref q.1).zipIdx pre.length=(Value.ref q.1,pre.length) :: (qs.map fun q=>Value.ref q.1).zipIdx (pre.length + 1) from rfl,List.forIn_cons]
  refine wpAny_bind (hf q n pre post u s _ E gz it g gT qz qT h9 (fun v h1 hv it1 gT1 k1=>?_) fun h1 e hv k1 he=>?_)
  ·have dk:q.2.2.drop k=v :: q.2.2.drop (k + 1):=(List.getElem?_eq_some_iff.mp hv).elim fun hlt e=>by rw [List.drop_eq_getElem_cons hlt,e]
   have fit:Fit X X s.heap h1:=.of fun c o gc nx=>k1 c o (fun e=>nx (e ▸ xq)) (fun e=>nx (e ▸ hTO)) gc
   have t1:=t.move fit fun a ha o e=>k1 a o (fun e=>nq.1 (e ▸ ha)) (fun e=>nT1 (e ▸ ha)) e
   rw [dk] at r
   cases d with
   | nil=>cases r
   | cons dx d=>
    cases r with | mk p r=>
    have e1:pre ++ v :: post=(pre ++ [v]) ++ post:=List.append_cons pre v post
    have lp:(pre ++ [v]).length=pre.length + 1:=List.length_append
    rw [← lp]
    refine ih (pre:=pre ++ [v]) (List.nodup_cons.mpr ⟨fun hm=>nz.1 (by cases hm with | head=>exact .head _ | tail _ hm=>exact .tail _ (.tail _ hm)),List.nodup_cons.mpr ⟨nT1,nq.2⟩⟩) (fun a ha=>xi a (.tail _ ha)) t1 (e1 ▸ gT1) (k1 _ _ qz.symm zT gz) (Nat.succ.inj hl) (by rw [← e1]; rw [List.length_append] at h9 ⊢; exact h9) (fun hs vs h2 hl2 hh z2 r2 gT2 k2=>?_) fun h2 e hh k2 he=>?_
    ·have k2':Keep X h1 h2:=fun c o gc nx=>k2 c o (fun e=>nx (e ▸ hTO)) (fun hm=>nx (xi c (.tail _ hm))) gc
     have f2:=Fit.of (fit.k.trans k2')
     refine kS (dx :: hs) (v :: vs) h2 (congrArg (· + 1) hl2) (by show (heads ds).map _=_; rw [hh]; rfl) (.cons (it1.at fun o e=>k2 _ o qT nq.1 e) (f2.k _ _ g x) x (Reps.keep f2 d r) z2) ⟨Rep.keep f2 dx p,r2⟩ (by rw [gT2,List.append_assoc]; rfl) fun c o cT ci gc=>k2 c o cT (fun hm=>ci (.tail _ hm)) (k1 c o (fun e=>ci (e ▸ .head _)) cT gc)
    ·exact kE h2 e (by show (heads ds).map _=_; rw [hh]; rfl) (fun c o cz cT ci gc=>k2 c o cz cT (fun hm=>ci (.tail _ hm)) (k1 c o (fun e=>ci (e ▸ .head _)) cT gc)) he
  ·have dk:q.2.2.drop k=[]:=List.drop_eq_nil_iff.mpr (List.getElem?_eq_none_iff.mp hv)
   rw [dk] at r
   cases d with
   | nil=>exact kE h1 e rfl (fun c o cz cT ci gc=>k1 c o (fun e=>ci (e ▸ .head _)) cz gc) he
   | cons dx d=>cases r
end
noncomputable abbrev ZF (z TO:Addr) (qs:List ZE) (a:Addr):Prop:=a=z ∨ a=TO ∨ a ∈ its qs
inductive ZSt (C:Cx) (z TI TO:Addr) (qs:List ZE) (X:Addr → Prop) (l:List PV) (h:Heap):Prop
 | mk {k n m:Nat} {d:List PV} {ds:List (List PV)} {vs:List Value} (gz:IsZip h z TI TO .none) (gI:h.get? TI=some (tupO (qs.map fun q=>.ref q.1) m)) (xI:¬ X TI) (gT:h.get? TO=some (tupO vs 0)) (hv:vs.length=qs.length) (r:ZR C X h k qs (d :: ds)) (hl:l=zipN n (d :: ds)) (hn:d.length < n):ZSt C z TI TO qs X l h
section
variable {prog:Program} {w:World} {A:Around} {C:Cx} {X:Addr → Prop} {z TI TO:Addr} {qs:List ZE} {s:Shared}
theorem set_tup {x:Value} {pre post:List Value} {u:Value}:((pre ++ u :: post).toArray.setIfInBounds pre.length x)=(pre ++ x :: post).toArray:=by
 rw [List.setIfInBounds_toArray,List.set_append_right _ _ (Nat.le_refl _),Nat.sub_self]
 rfl
theorem map_tup {x:Value} {pre post:List Value} {u:Value}:Obj.mapSeq (fun a=>a.setIfInBounds pre.length x) (tupO (pre ++ u :: post) 0)=tupO (pre ++ x :: post) 0:=by
 show ({ cls:=.type "tuple",data:=.seq ((pre ++ u :: post).toArray.setIfInBounds pre.length x) (if (((pre ++ u :: post).toArray.setIfInBounds pre.length x).size == (pre ++ u :: post).toArray.size) then 0 else 0 + 1) }:Obj)=_
 rw [Array.size_setIfInBounds,beq_self_eq_true,if_pos rfl,set_tup]
theorem zip_end {ds:List (List PV)} {d:List PV} {n:Nat} (h:[]=zipN n (d :: ds)) (hn:d.length < n):heads (d :: ds)=none:=by
 cases n with
 | zero=>cases hn
 | succ n=>cases hh:heads (d :: ds) with
  | none=>rfl
  | some hs=>rw [zipN,hh] at h; cases h
structure ZStp (d:PV) (l:List PV) (ds:List (List PV)) (n:Nat) (hs:List PV):Prop where
 h:heads ds=some hs
 e:d=.tuple hs
 l:l=zipN n (ds.map List.tail)
theorem zip_next {x:PV} {l:List PV} {ds:List (List PV)} {n:Nat} (h:x :: l=zipN n ds):∃ m hs,n=m + 1 ∧ ZStp x l ds m hs:=by
 cases n with
 | zero=>cases h
 | succ n=>cases hh:heads ds with
  | none=>rw [zipN,hh] at h; cases h
  | some hs=>rw [zipN,hh] at h; cases h; exact ⟨n,hs,rfl,hh,rfl,rfl⟩
theorem zip_turn (hh:A.handled=none) {k m:Nat} {ds:List (List PV)} {vs:List Value} (hz:X z) (hTO:X TO) (nd:(z :: TO :: its qs).Nodup) (xi:∀ a ∈ its qs,X a) (h9:qs.length < 9) (hq:qs ≠ [])
  (gz:IsZip s.heap z TI TO .none) (gI:s.heap.get? TI=some (tupO (qs.map fun q=>.ref q.1) m)) (xI:¬ X TI) (gT:s.heap.get? TO=some (tupO vs 0)) (hv:vs.length=qs.length) (r:ZR C X s.heap k qs ds) {Q:Value → Shared → Prop} {E:Value → Shared → Prop}
  (kS:∀ hs us h' (T:Addr),heads ds=some hs → IsZip h' z TI TO (rawInt T) → h'.get? TO=some (tupO us 0) → us.length=qs.length → ZR C X h' (k + 1) qs (ds.map List.tail) → Reps C X h' hs us → h'.get? T=some (tupO us 0) → T ≠ z → (∀ c o,¬ ZF z TO qs c → s.heap.get? c=some o → h'.get? c=some o) → Q (.ref T) { s with heap:=h' })
  (kE:∀ h' e,heads ds=none → (∀ c o,¬ ZF z TO qs c → s.heap.get? c=some o → h'.get? c=some o) → (∃ o,h'.get? e=some o ∧ o.cls=.type "StopIteration") → E (.ref e) { s with heap:=h' }) :
  wpAny (model prog w) A (Builtin.«zip.__next__» ⟨[.ref z],[]⟩) (fun fin s'=>∃ v,fin=.done (.ret v) ∧ Q v s') E s:=by
 have nz:=List.nodup_cons.mp nd
 have nT:=List.nodup_cons.mp nz.2
 have zT:z ≠ TO:=fun e=>nz.1 (e ▸ .head _)
 show wpAny _ _ (field (.ref z) 2 >>= _) _ _ _
 refine wpAny_bind (wpAny_field gz rfl (x:=.bool false) rfl ?_)
 show wpAny _ _ (field (.ref z) 3 >>= _) _ _ _
 refine wpAny_bind (wpAny_field gz rfl (x:=.ref TI) rfl ?_)
 refine wpAny_bind (wpAny_seqItems gI rfl ?_)
 have hne:(qs.map fun q=>Value.ref q.1).toArray.isEmpty=false:=by
  cases qs with
  | nil=>exact absurd rfl hq
  | cons q qs=>rfl
 dsimp only
 rw [hne]
 show wpAny _ _ (Builtin.SmallTypes.ownedTupleIsFree (.ref z) >>= _) _ _ _
 refine wpAny_bind ?_
 unfold Builtin.SmallTypes.ownedTupleIsFree
 refine wpAny_bind (wpAny_field gz rfl (x:=.none) rfl (wpAny_pure ?_))
 show wpAny _ _ (ite (true=true) _ _) _ _ _
 rw [if_pos rfl]
 refine wpAny_bind (wpAny_rule ?_)
 refine wpAny_bind (wpAny_field gz rfl (x:=.ref TO) rfl ?_)
 refine wpAny_bind (wpAny_setField_rec gz (show 0 < 5 by decide) fun h₁ gz₁ hs₁=>?_)
 have k1:∀ c o,c ≠ z → s.heap.get? c=some o → h₁.get? c=some o:=fun c o ne g=>(hs₁.2 c ne).trans g
 have r1:=r.move (Fit.of (X:=X) fun c o g nx=>k1 c o (fun e=>nx (e ▸ hz)) g) fun a ha o g=>k1 a o (fun e=>nz.1 (e ▸ .tail _ ha)) g
 refine wpAny_bind (zloop (pre:=[]) (post:=vs) (z:=z) (TI:=TI) (TO:=TO) (C:=C) (X:=X) (k:=k) ?_ hz hTO nd xi r1 (k1 _ _ zT.symm gT) gz₁ hv (by rw [List.nil_append,hv]; exact h9) (fun hs us h₂ hu hd r2 p2 gT2 k2=>?_) fun h₂ e hd k2 he=>kE h₂ e hd (fun c o nf g=>k2 c o (fun e=>nf (.inl e)) (fun e=>nf (.inr (.inl e))) (fun e=>nf (.inr (.inr e))) (k1 c o (fun e=>nf (.inl e)) g)) he)
 ·intro q n pre post u s' Q' E' fz it gl gT' qz qT l9 kY kN
  refine wpAny_bind (wpAny_onRaise ?_)
  show wpAny _ _ (Builtin.SmallTypes.nextOf (.ref q.1) >>= _) _ _ _
  have hl:s'.heap.IsList q.2.1 q.2.2.toArray:=⟨_,gl,rfl,n,rfl⟩
  cases hx:q.2.2[k]? with
  | none=>
   refine wpAny_bind (wpAny_nextOf_list_end hh it hl ((List.getElem?_toArray).trans hx) fun h₂ e hs₂ he=>?_)
   obtain ⟨oe,hoe,hce⟩:=he
   have gz₂:=hs₂ _ _ qz.symm fz
   have hez:e ≠ z:=fun x=>by subst x; rw [gz₂] at hoe; cases hoe; exact absurd (Value.type.inj hce) (by decide)
   exact wpAny_setField_rec gz₂ (show 0 < 5 by decide) fun h₃ zz hs₃=>kN h₃ e hx (fun c o ci cz g=>(hs₃.2 c cz).trans (hs₂ c o ci g)) ⟨oe,(hs₃.2 _ hez).trans hoe,hce⟩
  | some x=>
   refine wpAny_bind (wpAny_nextOf_list_item it hl ((List.getElem?_toArray).trans hx) fun h₂ it₂ hs₂=>wpAny_pure ?_)
   have gT₂:=(hs₂.2 _ qT.symm).trans gT'
   refine wpAny_bind (wpAny_seqItems gT₂ rfl ?_)
   refine wpAny_bind (wpAny_updateSeq gT₂ rfl ?_ (by show (pre ++ u :: post).length ≤ sizeLine; exact Nat.le_trans (Nat.le_of_lt l9) (by decide)) (by show (Array.setIfInBounds _ _ _).size ≤ _; rw [Array.size_setIfInBounds]; show (pre ++ u :: post).length ≤ _; exact Nat.le_trans (Nat.le_of_lt l9) (by decide)))
   refine wpAny_bind (wpAny_letGo (wpAny_pure ?_))
   have sb:=Heap.SameBut.update h₂ TO (Obj.mapSeq (·.setIfInBounds pre.length x))
   exact kY x _ hx (it₂.extBut sb.extBut qT) ((Heap.get?_update_self _ gT₂ rfl).trans (congrArg some map_tup)) fun c o ci cT g=>(sb.2 c cT).trans ((hs₂.2 c ci).trans g)
 ·have k12:∀ c o,¬ ZF z TO qs c → s.heap.get? c=some o → h₂.get? c=some o:=fun c o nf g=>k2 c o (fun e=>nf (.inr (.inl e))) (fun e=>nf (.inr (.inr e))) (k1 c o (fun e=>nf (.inl e)) g)
  refine wpAny_bind (wpAny_seqItems gT2 rfl ?_)
  refine wpAny_bind (wpAny_newTuple ?_ (by show us.length ≤ sizeLine; rw [hu]; exact Nat.le_trans (Nat.le_of_lt h9) (by decide)))
  show wpAny _ _ (Builtin.SmallTypes.ownedTupleHandOut (.ref z) (.ref h₂.objs.size) >>= _) _ _ _
  refine wpAny_bind ?_
  unfold Builtin.SmallTypes.ownedTupleHandOut
  have gz₂:IsZip h₂ z TI TO .ellipsis:=k2 _ _ zT (fun hm=>nz.1 (.tail _ hm)) gz₁
  refine wpAny_bind (wpAny_setField_rec (Heap.get?_push_of_some _ gz₂) (show 0 < 5 by decide) fun h₃ gz₃ hs₃=>?_)
  refine wpAny_setField_rec gz₃ (show 1 < 5 by decide) fun h₄ gz₄ hs₄=>?_
  have up:∀ c o,c ≠ z → h₂.get? c=some o → h₄.get? c=some o:=fun c o cz g=>(hs₄.2 c cz).trans ((hs₃.2 c cz).trans (Heap.get?_push_of_some _ g))
  have Tz:h₂.objs.size ≠ z:=Nat.ne_of_gt (Heap.lt_size gz₂)
  have f4:Fit X X h₂ h₄:=.of fun c o g nx=>up c o (fun e=>nx (e ▸ hz)) g
  exact wpAny_pure ⟨_,rfl,kS hs us h₄ h₂.objs.size hd gz₄ (up _ _ zT.symm gT2) hu (r2.move f4 fun a ha o g=>up a o (fun e=>nz.1 (e ▸ .tail _ ha)) g) (Reps.keep f4 hs p2) ((hs₄.2 _ Tz).trans ((hs₃.2 _ Tz).trans (Heap.get?_push_size _ rfl))) Tz fun c o nf g=>up c o (fun e=>nf (.inl e)) (k12 c o nf g)⟩
end
theorem typeCall_zip (vs:List Value):checkTypeCall "zip" ⟨vs,[]⟩=pure ():=by kernel_rfl
theorem newCall_zip (a b:Value) (vs:List Value):checkBuiltinCall "zip.__new__" ⟨.type "zip" :: a :: b :: vs,[]⟩=pure ():=by kernel_rfl
theorem args_oi (vs:List Value):argsOk "object.__init__" ⟨vs,[]⟩:=by
 unfold argsOk; rw [signature?_of (id := "object.__init__") (n:=['_', '_', 't', 'i', 'n', 'i', '_', '_']) (o:=['t', 'c', 'e', 'j', 'b', 'o']) (by kernel_rfl) F.owner_object]; kernel_rfl
theorem ZR.len {C:Cx} {X:Addr → Prop} {h:Heap} {k:Nat} {qs:List ZE} {ds:List (List PV)} (r:ZR C X h k qs ds):qs.length=ds.length:=by
 induction r with
 | nil=>rfl
 | cons it g x r t ih=>exact congrArg (· + 1) ih
structure ZMade (C:Cx) (Y:Addr → Prop) (n:Nat) (h h':Heap) (qs:List ZE) (ds:List (List PV)):Prop where
 r:ZR C Y h' 0 qs ds
 nd:(its qs).Nodup
 lo:∀ a ∈ its qs,n ≤ a
 k:Keep NoX h h'
 sz:n ≤ h'.objs.size
noncomputable abbrev refs (qs:List ZE):List Value:=qs.map fun q=>.ref q.1
section
variable {prog:Program} {w:World} {A:Around} {C:Cx} {X Y:Addr → Prop} {s:Shared}
theorem zip_its {f:Value → Array Value → Sem (ForInStep (Array Value))} (hf:∀ x r,f x r=(holding r.toList (pyIter x) >>= fun v=>pure (.yield (r.push v)))) {E:Value → Shared → Prop} {l:List PV}:∀ {ds:List (List PV)} {vs:List Value} {acc:Array Value} {s:Shared} {Q:Array Value → Shared → Prop},asLs l=some ds → Reps C Y s.heap l vs →
  (∀ qs h' r,ZMade C Y s.heap.objs.size s.heap h' qs ds → r.toList=acc.toList ++ refs qs → Q r { s with heap:=h' }) → wpAny (model prog w) A (forIn vs acc f) Q E s:=by
 induction l with
 | nil=>
  intro ds vs acc s Q h r k
  cases h; cases r
  rw [List.forIn_nil]
  exact wpAny_pure (k [] s.heap acc ⟨.nil,List.nodup_nil,nofun,Keep.refl _ _,Nat.le_refl _⟩ (List.append_nil _).symm)
 | cons d l ih=>
  intro ds vs acc s Q h r k
  cases r with | @mk v vs p q=>
  refine obind h fun x hx h=>omap (G:=fun ds=>(∀ qs h' r,ZMade C Y s.heap.objs.size s.heap h' qs ds → r.toList=acc.toList ++ refs qs → Q r { s with heap:=h' }) → _) h (fun ds hds k=>?_) k
  cases list_read (d:=.v d) hx p with | @mk a _ n _ g _=>
  cases d <;> first | exact no hx | cases hx
  cases p with | mk ya g r=>
  rw [List.forIn_cons,hf]
  refine wpAny_bind (wpAny_bind (wpAny_holding (wpAny_pyIter_list ⟨_,g,rfl,_,rfl⟩ (wpAny_pure ?_))))
  have kp:=Keep.push NoX s.heap { cls:=.type "list_iterator",data:=.fields #[.ref a,.int 0 0] }
  refine ih hds (Reps.keep (.nox kp) _ q) fun qs h' r' m e=>k ((s.heap.objs.size,a,_) :: qs) h' r' ⟨.cons ⟨_,m.k _ _ (Heap.get?_push_size _ rfl) id,rfl,rfl⟩ (m.k _ _ (kp _ _ g id) id) ya (Reps.keep (.nox (kp.trans m.k)) _ r) m.r,List.nodup_cons.mpr ⟨fun hm=>?_,m.nd⟩,fun b hb=>?_,kp.trans m.k,Nat.le_trans (Nat.le_trans (Nat.le_succ _) (Nat.le_of_eq (Heap.size_push ..).symm)) m.sz⟩ ?_
  ·have:=m.lo _ hm
   rw [Heap.size_push] at this
   exact Nat.not_succ_le_self _ this
  ·cases hb with
   | head=>exact Nat.le_refl _
   | tail _ hb=>
    have:=m.lo _ hb
    rw [Heap.size_push] at this
    exact Nat.le_of_succ_le this
  ·rw [e,Array.toList_push,List.append_assoc]; rfl
theorem newClass_zip (vs:List Value):Builtin.SmallTypes.newClass "zip" ⟨.type "zip" :: vs,[]⟩=pure (.type "zip",vs):=by
 simp only [Builtin.SmallTypes.newClass,isType,pure_bind,sub_zip,Bool.not_true,Bool.false_eq_true,if_false]
structure ZNew (C:Cx) (Y:Addr → Prop) (h h':Heap) (z TI TO:Addr) (qs:List ZE) (ds:List (List PV)):Prop where
 m:ZMade C Y h.objs.size h h' qs ds
 gz:IsZip h' z TI TO .none
 gI:h'.get? TI=some (tupO (refs qs) 0)
 gT:h'.get? TO=some (tupO (qs.map fun zz=>.none) 0)
 ni:∀ a ∈ its qs,a < TI
 it:TI < TO
 tz:TO < z
 lo:h.objs.size ≤ TI
theorem zip_obj {h:Heap} {qs:List ZE} {ds:List (List PV)} (m:ZMade C Y h.objs.size h s.heap qs ds) (h9:ds.length < 9) {Q:Fin → Shared → Prop} {E:Value → Shared → Prop}
  (k:∀ z TI TO h',ZNew C Y h h' z TI TO qs ds → Q (.done (.ret (.ref z))) { s with heap:=h' }) :
  wpAny (model prog w) A (do ret (← Builtin.SmallTypes.newRecord (.type "zip") (Builtin.SmallTypes.ownedTupleFields ++ [.bool false,← newTuple (refs qs),← newTuple ((refs qs).map fun zz=>.none)]))) Q E s:=by
 have hq:∀ {f:ZE → Value},(qs.map f).length ≤ sizeLine:=by
  intro f
  rw [List.length_map,m.r.len]
  exact Nat.le_trans (Nat.le_of_lt h9) (by decide)
 have e:(refs qs).map (fun zz=>Value.none)=qs.map fun zz=>.none:=List.map_map
 rw [e]
 refine wpAny_bind (wpAny_newTuple (wpAny_bind (wpAny_newTuple (wpAny_bind ?_) hq)) hq)
 unfold Builtin.SmallTypes.newRecord
 dsimp only
 refine wpAny_newObj_type ?_ (by show 5 ≤ _; decide)
 have k1:∀ o,Keep NoX s.heap (((s.heap.push (tupO (refs qs) 0)).push (tupO (qs.map fun zz=>.none) 0)).push o):=fun o=>(Keep.push _ _ _).trans ((Keep.push _ _ _).trans (Keep.push _ _ _))
 have sz:∀ (h:Heap) (o:Obj),h.objs.size < (h.push o).objs.size:=fun h o=>Nat.lt_of_lt_of_eq (Nat.lt_succ_self _) (Heap.size_push ..).symm
 exact wpAny_pure (k _ s.heap.objs.size (s.heap.push (tupO (refs qs) 0)).objs.size _ ⟨⟨m.r.move (.nox (k1 _)) fun a ha o g=>k1 _ a o g id,m.nd,m.lo,m.k.trans (k1 _),Nat.le_trans m.sz (Nat.le_of_lt (Nat.lt_trans (sz _ _) (Nat.lt_trans (sz _ _) (sz _ _))))⟩,Heap.get?_push_size _ rfl,Heap.get?_push_of_some _ (Heap.get?_push_of_some _ (Heap.get?_push_size _ rfl)),Heap.get?_push_of_some _ (Heap.get?_push_size _ rfl),fun a ha=>(m.r.live a ha).elim fun o g=>Heap.lt_size g,sz _ _,sz _ _,m.sz⟩)
theorem zip_new {l:List PV} {ds:List (List PV)} {a b:Value} {vs:List Value} (hl:asLs l=some ds) (r:Reps C Y s.heap l (a :: b :: vs)) (h9:ds.length < 9) {Q:Value → Shared → Prop} {E:Value → Shared → Prop}
  (k:∀ z TI TO qs h',ZNew C Y s.heap h' z TI TO qs ds → Q (.ref z) { s with heap:=h' }):wpAny (model prog w) A (call (.type "zip") (a :: b :: vs)) Q E s:=by
 refine callType_new (S:=fun zz R s'=>s'=s ∧ ∀ z TI TO qs h',ZNew C Y s.heap h' z TI TO qs ds → R (.ok (.ret (.ref z))) { s with heap:=h' }) F.called_zip (by decide) (typeCall_zip _) (newCall_zip _ _ _) (fun obj=>args_oi _) F.entry_zip_new (.of_wp fun prog w A R s' hs=>?_) ⟨rfl,fun z TI TO qs h' n=>⟨⟨_,n.gz,rfl⟩,k z TI TO qs h' n⟩⟩
 cases hs with | intro e k=>
 cases e
 show wpAny _ _ (Builtin.SmallTypes.newClass "zip" ⟨.type "zip" :: a :: b :: vs,[]⟩ >>= _) _ _ _
 rw [newClass_zip]
 refine wpAny_bind (wpAny_pure ?_)
 show wpAny _ _ (Builtin.SmallTypes.iterAll (a :: b :: vs) >>= _) _ _ _
 unfold Builtin.SmallTypes.iterAll
 refine wpAny_bind (wpAny_bind (zip_its (fun zz zz=>rfl) hl r fun qs h' r m e=>wpAny_pure ?_))
 rw [show r.toList=refs qs from e]
 exact zip_obj m h9 fun z TI TO h₁ n=>⟨_,rfl,k z TI TO qs h₁ n⟩
end
section
variable {prog:Program} {w:World} {A:Around} {C:Cx} {X Y:Addr → Prop} {s:Shared} {z TI TO:Addr} {qs:List ZE} {h h':Heap} {l ls:List PV}
theorem ZSt.keep (q:ZSt C z TI TO qs X l h) (fit:Fit X Y h h') (kF:∀ a o,ZF z TO qs a → h.get? a=some o → h'.get? a=some o):ZSt C z TI TO qs Y l h':=by
 cases q with | mk gz gI xI gT hv r hl hn=>
 exact ⟨kF _ _ (.inl rfl) gz,fit.k _ _ gI xI,fit.s _ _ gI xI,kF _ _ (.inr (.inl rfl)) gT,hv,r.move fit fun a ha o g=>kF a o (.inr (.inr ha)) g,hl,hn⟩
theorem zip_iter (hh:A.handled=none) {ts:List NP} {k:Nat} {p:Pos} (nd:(z :: TO :: its qs).Nodup) (nI:¬ ZF z TO qs TI) (h9:qs.length < 9) (hq:qs ≠ []):IterOk (model prog w) A C (.tup ts k p) (.ref z) (ZF z TO qs) (ZSt C z TI TO qs) where
 keep:=fun X Y l h h' q fit kF=>q.keep fit kF
 next:=fun X d l s st hFX Q E k=>by
  cases st with | @mk j n m d0 ds vs gz gI xI gT hv r hl hn=>
  have hT:s.TypeIs (.ref z) "zip" := ⟨_,gz,rfl⟩
  obtain ⟨n,hs,rfl,st⟩:=zip_next hl
  unfold pyNext
  refine wpAny_bind (wpAny_attempt (wpAny_callSpecial?_slot (name:=Str.ofString "__next__") hT F.slot_zip_next
   (wpAny_call_entry F.slot_zip_next hT F.entry_zip_next (zip_turn (A:=A.in1) hh (hFX _ (.inl rfl)) (hFX _ (.inr (.inl rfl))) nd (fun a ha=>hFX a (.inr (.inr ha))) h9 hq gz gI xI gT hv r (fun hs' us h1 T e1 gz1 gT1 lu r1 p1 g1 Tz k1=>wpAny_pure (k _ _ fun Q' E' k'=>?_)) fun h1 e e1=>absurd (st.h.symm.trans e1) nofun) (F.args_zip_next_1 _))))
  cases st.h.symm.trans e1
  refine wpAny_letOwnedTupleGo_zip gz1 fun h2 gz2 s2=>k' _ _ ?_
  have up:∀ c o,c ≠ z → h1.get? c=some o → h2.get? c=some o:=fun c o cz g=>(s2.2 c cz).trans g
  have f2:Fit X X h1 h2:=.of fun c o g nx=>up c o (fun e=>nx (e ▸ hFX _ (.inl rfl))) g
  have nz:=List.nodup_cons.mp nd
  refine ⟨⟨fun c o g nf=>up c o (fun e=>nf (.inl e)) (k1 c o nf g),rfl,rfl⟩,⟨gz2,up _ _ (fun e=>nI (.inl e)) (k1 _ _ nI gI),xI,up _ _ (fun e=>nz.1 (e ▸ .head _)) gT1,lu,r1.move f2 fun a ha o g=>up a o (fun e=>nz.1 (e ▸ .tail _ ha)) g,st.l,?_⟩,.tup rfl st.e rfl (up _ _ Tz g1) (Reps.keep f2 _ p1)⟩
  exact heads_some st.h fun x r t e zz zz=>by rw [e] at hn ⊢; exact Nat.lt_of_succ_lt_succ hn
 done:=fun X s st hFX Q E k=>by
  cases st with | mk gz gI xI gT hv r hl hn=>
  have hT:s.TypeIs (.ref z) "zip" := ⟨_,gz,rfl⟩
  unfold pyNext
  refine wpAny_bind (wpAny_attempt (wpAny_callSpecial?_slot (name:=Str.ofString "__next__") hT F.slot_zip_next
   (wpAny_call_entry F.slot_zip_next hT F.entry_zip_next (zip_turn (A:=A.in1) hh (hFX _ (.inl rfl)) (hFX _ (.inr (.inl rfl))) nd (fun a ha=>hFX a (.inr (.inr ha))) h9 hq gz gI xI gT hv r (fun hs' us h1 T e1 zz zz zz zz zz zz zz zz=>absurd ((zip_end hl hn).symm.trans e1) nofun) fun h1 e e1 k1 he=>?_) (F.args_zip_next_1 _))))
  obtain ⟨o,ho,hc⟩:=he
  exact wpAny_bind (wpAny_isInstance (T := "StopIteration") (b:=true) ⟨o,ho,hc⟩ isSubtype_stop (wpAny_pure (k _ _ ⟨rfl,⟨fun c o g nf=>k1 c o nf g,rfl,rfl⟩⟩)))
 self:=fun X l s Q E st k=>by
  cases st with | mk gz=>exact wpAny_pyIter_zip gz k
 live:=fun X l h st a ha=>by
  cases st with | mk gz gI xI gT hv r hl hn=>
  exact ha.elim (fun e=>⟨_,e ▸ gz⟩) fun ha=>ha.elim (fun e=>⟨_,e ▸ gT⟩) (r.live a)
theorem ZNew.lo' {ds:List (List PV)} (n:ZNew C Y h h' z TI TO qs ds) {a:Addr} (f:ZF z TO qs a):h.objs.size ≤ a:=by
 have h1:=Nat.le_of_lt (Nat.lt_of_le_of_lt n.lo n.it)
 exact f.elim (fun e=>e ▸ Nat.le_trans h1 (Nat.le_of_lt n.tz)) fun f=>f.elim (fun e=>e ▸ h1) (n.m.lo a)
theorem ZNew.nd {ds:List (List PV)} (n:ZNew C Y h h' z TI TO qs ds):(z :: TO :: its qs).Nodup:=by
 have h1:∀ a ∈ its qs,a < TO:=fun a ha=>Nat.lt_trans (n.ni a ha) n.it
 refine List.nodup_cons.mpr ⟨fun hm=>?_,List.nodup_cons.mpr ⟨fun hm=>Nat.lt_irrefl _ (h1 _ hm),n.m.nd⟩⟩
 cases hm with
 | head=>exact Nat.lt_irrefl _ n.tz
 | tail _ hm=>exact Nat.lt_irrefl _ (Nat.lt_trans (h1 _ hm) n.tz)
theorem ZNew.nI {ds:List (List PV)} (n:ZNew C Y h h' z TI TO qs ds):¬ ZF z TO qs TI:=fun f=>f.elim (fun e=>Nat.lt_irrefl _ (Nat.lt_trans (e ▸ n.it:z < TO) n.tz)) fun f=>f.elim (fun e=>Nat.lt_irrefl _ (e ▸ n.it:TO < TO)) fun f=>Nat.lt_irrefl _ (n.ni _ f)
theorem asLs_len:∀ {l:List PV} {ds:List (List PV)},asLs l=some ds → ds.length=l.length
 | [],_,h=>osome h rfl
 | d :: l,ds,h=>obind h fun x hx h=>omap (G:=fun ds=>ds.length=_) h fun r hr=>congrArg (· + 1) (asLs_len hr)
theorem zip_made {t:Tg} (hh:A.handled=none) (ht:∀ x p,t ≠ .nm x p) (hX:∀ a,X a → ∃ o,s.heap.get? a=some o) {a:List PV} {r:List (List PV)} {vs:List Value} (hl:asLs l=some (a :: r)) (hz:zipL (a :: r)=some ls) (q:Reps C X s.heap l vs) {Q:Value → Shared → Prop} {E:Value → Shared → Prop}
  (k:∀ v s₁,Tr (model prog w) A (pyIter v) s₁ (MadeI (model prog w) A C X t ls s) → Q v s₁):wpAny (model prog w) A (PySem.call (.type "zip") vs) Q E s:=onif hz fun c hz=>by
 have ln:=(asLs_len hl).trans q.length
 cases r with
 | nil=>cases c
 | cons b r=>
 cases vs with
 | nil=>cases ln
 | cons v0 vs=>cases vs with
  | nil=>cases ln
  | cons v1 vs=>
  cases t with
  | nm x p=>exact absurd rfl (ht x p)
  | tup ts m p=>
  have h9:(a :: b :: r).length < 9:=by
   have:=of_decide_eq_false (show decide (7 < (b :: r).length)=false from c)
   exact Nat.lt_succ_of_le (Nat.succ_le_succ (Nat.le_of_not_lt this))
  refine zip_new (Y:=fun a=>X a ∨ s.heap.objs.size ≤ a) hl (Reps.keep ⟨Keep.refl _ _,fun a o g n=>fun f=>f.elim n fun le=>Nat.lt_irrefl _ (Nat.lt_of_lt_of_le (Heap.lt_size g) le)⟩ _ q) h9 fun z TI TO qs h' n=>k (.ref z) _ fun Q' E' k'=>wpAny_pyIter_zip n.gz (k' _ _ ?_)
  have lq:=n.m.r.len
  refine ⟨⟨n.m.k,rfl,rfl⟩,zip_iter hh n.nd n.nI (lq ▸ h9) (fun e=>by rw [e] at lq; cases lq),fun a f=>none_size (n.lo' f),⟨n.gz,n.gI,fun f=>f.elim (fun x=>(hX _ x).elim fun o g=>Nat.lt_irrefl _ (Nat.lt_of_lt_of_le (Heap.lt_size g) n.lo)) n.nI,n.gT,List.length_map _,n.m.r.move ⟨Keep.refl _ _,fun a o g n' f=>n' (f.imp id n.lo')⟩ fun zz zz zz=>id,(Option.some.inj hz).symm,Nat.lt_succ_self _⟩⟩
end
theorem iZip {T:Th} {G:Gl} {t:Tg} (hG:GlOk T G) (ht:∀ x p,t ≠ .nm x p) {fp p:Pos} {es:List E} (hs:Each (ESound T G) es):ISound T G (.zip fp es p) t:=fun σ xs h A X env s c Q E k=>oif h fun g h=>obind h fun l hl h=>obind h fun ls hls h=>by
 cases ls with
 | nil=>exact no h
 | cons a r=>exact Call_ (gname hG g (hG.bval (n_zip,_) (.tail _ (.tail _ (.head _)))) c (callW hs (each_all hl) c (fun zz zz=>keepable_type _) fun vs s' q=>zip_made (t:=t) (hG.bud A c.pa).handled ht (c.ext q.x).e.bnd hls h q.r.reps fun v s₁ m=>k v s₁ fun Q' E' k'=>m Q' E' fun it s₂ m=>k' it s₂ (m.pre q.x)))
theorem kindN_lookup (x:Nm):∀ K:Ks,kindN x K=K.lookup (mkS x)
 | []=>rfl
 | (y,k) :: r=>by
  rw [List.lookup_cons]
  show (bif nmEq (nm y) x then some k else kindN x r)=_
  rw [kindN_lookup x r]
  by_cases e:nm y=x
  ·rw [← e,nmEq_self,mkS_nm,beq_self_eq_true]; rfl
  ·rw [nmEq_ne e,show (mkS x == y)=false from beq_eq_false_iff_ne.mpr fun h=>e (h ▸ rfl)]; rfl
noncomputable def reK (env:Env) (x:PySem.Str) (k:NameKind):NameKind:=if (k == .free && env.scope.kind == .function && env.kindOf x == some .cell)=true then .cell else k
theorem relabel_lookup (sc:Scope) (env:Env) (x:PySem.Str):(relabel sc env).names.lookup x=(sc.names.lookup x).map (reK env x):=by
 show (sc.names.map _).lookup x=_
 induction sc.names with
 | nil=>rfl
 | cons p r ih=>
  obtain ⟨n,k⟩:=p
  have e:(if (k == NameKind.free && env.scope.kind == .function && env.kindOf n == some .cell)=true then (n,NameKind.cell) else (n,k))=(n,reK env n k):=by
   unfold reK
   split <;> rfl
  show List.lookup x ((if (k == NameKind.free && env.scope.kind == .function && env.kindOf n == some .cell)=true then (n,NameKind.cell) else (n,k)) :: _)=_
  rw [e,List.lookup_cons,List.lookup_cons]
  cases hx:x == n with
  | true=>rw [eq_of_beq hx]; rfl
  | false=>exact ih
theorem cells_app:∀ (names:Ks) (n:Nat) (acc:List (PySem.Str × Addr)),cellsFrom n names acc=cellsFrom n names [] ++ acc
 | [],_,_=>rfl
 | (x,k) :: r,n,acc=>by
  unfold cellsFrom
  split
  ·rw [cells_app r (n + 1) ((x,n) :: acc),cells_app r (n + 1) [(x,n)],List.append_assoc]; rfl
  ·exact cells_app r n acc
theorem cells_mem {x:PySem.Str} {c:Addr}:∀ (names:Ks) (n:Nat),(x,c) ∈ cellsFrom n names [] → (x,NameKind.cell) ∈ names
 | [],_,h=>nomatch h
 | (y,k) :: r,n,h=>by
  unfold cellsFrom at h
  by_cases hk:(k == NameKind.cell)=true
  ·rw [if_pos hk,cells_app] at h
   cases eq_of_beq hk
   refine (List.mem_append.mp h).elim (fun h=>.tail _ (cells_mem r _ h)) fun h=>?_
   cases List.mem_singleton.mp h
   exact .head _
  ·rw [if_neg hk] at h
   exact .tail _ (cells_mem r _ h)
theorem look_of_mem {l:List (PySem.Str × Addr)} {x:PySem.Str} {c:Addr} (h:(x,c) ∈ l):∃ c',l.lookup x=some c':=by
 induction l with
 | nil=>cases h
 | cons p r ih=>
  obtain ⟨y,d⟩:=p
  rw [List.lookup_cons]
  cases q:x == y with
  | true=>exact ⟨d,rfl⟩
  | false=>cases h with
   | head=>rw [beq_self_eq_true] at q; cases q
   | tail _ h=>exact ih h
structure Clo (env:Env) (names:Ks) (acc cl:List (PySem.Str × Addr)):Prop where
 sub:∀ x c,(x,c) ∈ cl → (x,c) ∈ acc ∨ env.cells.lookup x=some c
 has:∀ x,(x,NameKind.free) ∈ names → ∃ c,(x,c) ∈ cl
 acc:∀ q ∈ acc,q ∈ cl
theorem clo_ok {env:Env} {f:PySem.Str × NameKind → List (PySem.Str × Addr) → Sem (ForInStep (List (PySem.Str × Addr)))} (hf:∀ p r,f p r=if (p.2 == NameKind.free)=true then cellOf env p.1 >>= fun a=>pure (.yield ((p.1,a) :: r)) else pure (.yield r)) {names:Ks} :
  ∀ {acc:List (PySem.Str × Addr)},(∀ x,(x,NameKind.free) ∈ names → ∃ c,env.cells.lookup x=some c) → ∃ cl,(forIn names acc f:Sem _)=pure cl ∧ Clo env names acc cl:=by
 induction names with
 | nil=>exact fun zz=>⟨_,List.forIn_nil,fun zz zz h=>.inl h,nofun,fun zz h=>h⟩
 | cons p r ih=>
  intro acc hn
  obtain ⟨y,k⟩:=p
  have hr:=fun x h=>hn x (.tail _ h)
  rw [List.forIn_cons,hf]
  by_cases hk:(k == NameKind.free)=true
  ·rw [if_pos hk]
   cases eq_of_beq hk
   obtain ⟨c,hc⟩:=hn y (.head _)
   obtain ⟨cl,e,q⟩:=ih (acc:=(y,c) :: acc) hr
   refine ⟨cl,(by rw [cellOf,hc]; exact e),fun x d h=>(q.sub x d h).elim (fun h=>?_) .inr,fun x h=>?_,fun b h=>q.acc b (.tail _ h)⟩
   ·cases h with
    | head=>exact .inr hc
    | tail _ h=>exact .inl h
   ·cases h with
    | head=>exact ⟨c,q.acc _ (.head _)⟩
    | tail _ h=>exact q.has x h
  ·rw [if_neg hk]
   obtain ⟨cl,e,q⟩:=ih (acc:=acc) hr
   refine ⟨cl,e,q.sub,fun x h=>?_,q.acc⟩
   cases h with
   | head=>exact absurd rfl hk
   | tail _ h=>exact q.has x h
structure ScM (K:Ks) (sc:Scope) (x:PySem.Str) (k:NameKind):Prop where
 l:sc.names.lookup x=some k
 n:scN K (nm x) k=true
theorem sc_mem {K:Ks} {sc:Scope} (h:scOk K sc=true) {x:PySem.Str} {k:NameKind} (hm:(x,k) ∈ sc.names):ScM K sc x k:=
 band h fun zz h=>band (List.all_eq_true.mp h (x,k) hm) fun a b=>⟨by rw [← dec a,kindN_lookup,mkS_nm],b⟩
theorem sc_kind {K:Ks} {sc:Scope} (h:scOk K sc=true):sc.kind=.function:=band h fun h zz=>dec h
theorem bor' {a b:Bool} {G:Prop} (h:(a || b)=true) (k1:a=true → G) (k2:b=true → G):G:=by
 cases a with
 | true=>exact k1 rfl
 | false=>exact k2 h
theorem not_classdict {x:PySem.Str} (h:nmEq (nm x) n_classdict=false):(x == ("__classdict__" : PySem.Str))=false:=
 Bool.eq_false_iff.mpr fun e=>Bool.false_ne_true (h.symm.trans (by rw [show nm x=n_classdict from congrArg nm (eq_of_beq e)]; decide))
section
variable {C:Cx} {K:Ks} {X B:Addr → Prop} {env:Env} {σ:Sg} {h:Heap} {sc:Scope}
structure FreeN (env:Env) (x:PySem.Str) (c:Addr):Prop where
 c:env.cells.lookup x=some c
 n:(x == ("__classdict__" : PySem.Str))=false
 k:env.kindOf x ≠ some .local
theorem free_cell (e:EnvF C K X B env h σ) (hs:scOk K sc=true) {x:PySem.Str} (hx:(x,NameKind.free) ∈ sc.names):∃ c,FreeN env x c:=
 band (sc_mem hs hx).n fun h1 h2=>by
  have n:=not_classdict (bnot h1)
  refine bor' h2 (fun h=>?_) fun h=>?_
  ·have k:=e.kinds _ _ (dec h)
   rw [mkS_nm] at k
   exact k.2.elim fun c hc=>⟨c,hc,n,fun e=>by rw [k.1] at e; cases e⟩
  ·have k:=e.kinds _ _ (dec h)
   rw [mkS_nm] at k
   exact k.2.elim fun c hc=>⟨c,hc,n,fun e=>k.1.elim (fun k=>by rw [k] at e; cases e) fun k=>by rw [k.1] at e; cases e⟩
theorem closure_of (e:EnvF C K X B env h σ) (hs:scOk K sc=true):∃ cl,closureFor sc env=pure cl ∧ Clo env sc.names [] cl:=by
 obtain ⟨cl,e1,q⟩:=clo_ok (env:=env) (f:=fun p r=>if (p.2 == NameKind.free)=true then cellOf env p.1 >>= fun a=>pure (.yield ((p.1,a) :: r)) else pure (.yield r)) (fun zz zz=>rfl) (names:=sc.names) (acc:=[]) fun x hx=>(free_cell e hs hx).imp fun zz q=>q.c
 refine ⟨cl,?_,q⟩
 show ((forIn sc.names [] _:Sem _) >>= fun cs=>pure cs)=_
 rw [show (forIn sc.names [] _:Sem (List (PySem.Str × Addr)))=pure cl from e1]
 rfl
end
theorem lookN_filter {α:Type} {P:Nm → Bool} {x:Nm} {sl:α}:∀ σ:List (Nm × α),lookN x (σ.filter fun p=>P p.1)=some sl → P x=true ∧ lookN x σ=some sl
 | [],h=>no h
 | p :: r,h=>by
  by_cases hf:P p.1=true
  ·rw [List.filter_cons_of_pos (p:=fun q:Nm × α=>P q.1) hf] at h
   have h:(bif nmEq p.1 x then some p.2 else lookN x (r.filter fun p=>P p.1))=some sl:=h
   show _ ∧ (bif nmEq p.1 x then some p.2 else lookN x r)=_
   cases hy:nmEq p.1 x with
   | true=>rw [hy] at h; exact ⟨nmEq_of hy ▸ hf,h⟩
   | false=>rw [hy] at h; exact lookN_filter r h
  ·rw [List.filter_cons_of_neg (p:=fun q:Nm × α=>P q.1) hf] at h
   have q:=lookN_filter r h
   refine ⟨q.1,?_⟩
   show (bif nmEq p.1 x then some p.2 else lookN x r)=_
   rw [show nmEq p.1 x=false from Bool.eq_false_iff.mpr fun e=>hf (nmEq_of e ▸ q.1)]
   exact q.2
noncomputable def cEnv (h:Heap) (sc:Scope) (cl:List (PySem.Str × Addr)) (env:Env):Env:=
 {newEnv sc h.objs.size env.globals (cellsFrom (h.objs.size + 1) sc.names cl) env.qual none .none (some env) builtinsNs with scope:=relabel sc env }
noncomputable def cHeap (h:Heap) (sc:Scope):Heap:=pushCells (h.push { cls:=.type "dict",data:=.dict #[] }) sc.names
inductive CellF (h:Heap) (sc:Scope) (env:Env) (x:PySem.Str) (c:Addr):Prop
 | new (hm:(x,NameKind.cell) ∈ sc.names) (lo:h.objs.size + 1 ≤ c) (i:(cHeap h sc).IsCell c none) (m:(x,c) ∈ cellsFrom (h.objs.size + 1) sc.names [])
 | old (n:(cellsFrom (h.objs.size + 1) sc.names []).lookup x=none) (m:env.cells.lookup x=some c)
structure CompE (C:Cx) (X B:Addr → Prop) (env:Env) (h:Heap) (sc:Scope) (cenv:Env) (h':Heap) (σ:Sg):Prop where
 e:EnvF C sc.names (fun a=>X a ∨ FraO sc.names cenv a) B cenv h' (inner sc σ)
 nw:∀ a,FraO sc.names cenv a → h.get? a=none
 k:Keep NoX h h'
section
variable {C:Cx} {K:Ks} {X B:Addr → Prop} {env:Env} {σ:Sg} {h:Heap} {sc:Scope} {cl:List (PySem.Str × Addr)}
theorem cells_ok (h:Heap) (sc:Scope):CellsOk (cHeap h sc) (h.objs.size + 1) (cellsFrom (h.objs.size + 1) sc.names []):=by
 have ok:=cellsFrom_ok sc.names (h.push { cls:=.type "dict",data:=.dict #[] }) (h.objs.size + 1) [] ⟨nofun,List.Pairwise.nil⟩ (by rw [Heap.size_push]; exact Nat.le_refl _)
 rw [Heap.size_push] at ok
 exact ok
theorem cell_f (q:Clo env sc.names [] cl) {x:PySem.Str} {c:Addr} (hc:(cEnv h sc cl env).cells.lookup x=some c):CellF h sc env x c:=by
 have hc:(cellsFrom (h.objs.size + 1) sc.names cl).lookup x=some c:=hc
 rw [cells_app,List.lookup_append] at hc
 cases e:(cellsFrom (h.objs.size + 1) sc.names []).lookup x with
 | some c'=>
  rw [e] at hc
  cases hc
  have hm:=mem_of_lookup e
  exact .new (cells_mem _ _ hm) ((cells_ok h sc).empty _ _ hm).2 ((cells_ok h sc).empty _ _ hm).1 hm
 | none=>
  rw [e] at hc
  exact .old e ((q.sub x c (mem_of_lookup hc)).elim nofun id)
theorem cell_some {x:PySem.Str} (hm:sc.names.lookup x=some .cell) (cl:List (PySem.Str × Addr)):∃ c,(cellsFrom (h.objs.size + 1) sc.names cl).lookup x=some c:=Option.isSome_iff_exists.mp (cellsFrom_some _ _ _ (.inl hm))
theorem kof {x:PySem.Str} {k:NameKind} (hx:sc.names.lookup x=some k):(cEnv h sc cl env).kindOf x=some (reK env x k):=by
 show (relabel sc env).names.lookup x=_
 rw [relabel_lookup,hx]; rfl
theorem free_in (e:EnvF C K X B env h σ) (hs:scOk K sc=true) (q:Clo env sc.names [] cl) {x:PySem.Str} (hx:(x,NameKind.free) ∈ sc.names):∃ c,(cEnv h sc cl env).cells.lookup x=some c ∧ FreeN env x c:=by
 obtain ⟨c,f⟩:=free_cell e hs hx
 obtain ⟨c',m⟩:=q.has x hx
 obtain ⟨c',m⟩:=look_of_mem m
 have m':=(q.sub x c' (mem_of_lookup m)).elim nofun id
 rw [f.c] at m'
 cases m'
 refine ⟨c,?_,f⟩
 show (cellsFrom (h.objs.size + 1) sc.names cl).lookup x=some c
 rw [cells_app,List.lookup_append,m]
 cases e:(cellsFrom (h.objs.size + 1) sc.names []).lookup x with
 | none=>rfl
 | some d=>
  have:=(sc_mem hs (cells_mem _ _ (mem_of_lookup e))).l
  rw [(sc_mem hs hx).l] at this
  cases this
theorem reK_free (x:PySem.Str) (n:(x == ("__classdict__" : PySem.Str))=false) (hk:(cEnv h sc cl env).kindOf x=some (reK env x .free)):(cEnv h sc cl env).kindOf x=some .cell ∨ ((cEnv h sc cl env).kindOf x=some .free ∧ (x == ("__classdict__" : PySem.Str))=false):=by
 rw [hk]
 unfold reK
 split
 ·exact .inl rfl
 ·exact .inr ⟨rfl,n⟩
theorem comp_nw (q:Clo env sc.names [] cl) {a:Addr} (f:FraO sc.names (cEnv h sc cl env) a):h.get? a=none:=by
 cases f with
 | loc=>exact none_size (Nat.le_refl _)
 | cell k l=>cases cell_f q l with
  | new hm lo i m=>exact none_size (Nat.le_of_succ_le lo)
  | old n m=>
   rw [kindN_lookup,mkS_nm] at k
   obtain ⟨c,hc⟩:=cell_some (h:=h) k []
   rw [n] at hc; cases hc
theorem comp_fra (hs:scOk K sc=true) (q:Clo env sc.names [] cl) {a:Addr} (f:Fra (cEnv h sc cl env) a):FraO sc.names (cEnv h sc cl env) a ∨ Fra env a:=f.elim (fun e=>.inl (e ▸ .loc)) fun ⟨y,hy⟩=>by
 cases cell_f q hy with
 | new hm lo i m=>exact .inl (.cell (by rw [kindN_lookup,mkS_nm]; exact (sc_mem hs hm).l) hy)
 | old n m=>exact .inr (.inr ⟨y,m⟩)
theorem comp_env (e:EnvF C K X B env h σ) (hs:scOk K sc=true) (q:Clo env sc.names [] cl):CompE C X B env h sc (cEnv h sc cl env) (cHeap h sc) σ:=by
 have kN:Keep NoX h (cHeap h sc):=fun a o g zz=>pushCells_keeps _ _ a o (Heap.get?_push_of_some _ g)
 have hns:(cHeap h sc).Ns h.objs.size fun zz=>none:=(Heap.Ns.new h (.type "dict")).keeps (pushCells_keeps _ _)
 have fit:Fit X (fun a=>X a ∨ FraO sc.names (cEnv h sc cl env) a) h (cHeap h sc):=⟨kN.any,fun a o g n f=>f.elim n fun f=>by rw [comp_nw q f] at g; cases g⟩
 have oldC:∀ {x c},env.cells.lookup x=some c → ∃ o,h.get? c=some o:=fun hc=>(e.cellX _ _ hc).2.2.elim fun v hv=>hv.elim fun o q=>⟨o,q.1⟩
 have young:∀ {x c c'},env.cells.lookup x=some c → h.objs.size + 1 ≤ c' → c ≠ c':=fun hc lo e=>(oldC hc).elim fun o g=>by rw [none_size (e ▸ Nat.le_of_succ_le lo)] at g; cases g
 refine ⟨⟨show sc.kind=_ from sc_kind hs,e.glo,e.bui,e.base.trans kN,fun a f=>f.elim (e.newB a) fun f=>?_,⟨_,hns⟩,.inr .loc,fun x c hc=>?_,fun x y c hx hy=>?_,fun x k hk=>?_,fun a f=>f.elim (fun f=>(e.bnd a f).elim fun o g=>⟨o,kN a o g id⟩) fun f=>?_,fun a b=>.inl (e.bX a b),fun a f b=>(comp_fra hs q f).elim (fun f=>(e.bnd a (e.bX a b)).elim fun o g=>by rw [comp_nw q f] at g; cases g) fun f=>e.fB a f b,e.slots.elim fun V s=>⟨V,?_⟩⟩,fun a=>comp_nw q,kN⟩
 ·cases g:C.hb.get? a with
  | none=>rfl
  | some o=>have:=e.base a o g id; rw [comp_nw q f] at this; cases this
 ·cases cell_f q hc with
  | new hm lo i m=>exact ⟨.inr (.cell (by rw [kindN_lookup,mkS_nm]; exact (sc_mem hs hm).l) hc),fun e=>Nat.lt_irrefl _ (e ▸ lo),_,i⟩
  | old n m=>exact ⟨.inl (e.cellX x c m).1,fun (e:c=h.objs.size)=>(oldC m).elim fun o g=>Nat.ne_of_lt (Heap.lt_size g) e,(e.cellX x c m).2.2.imp fun v hv=>IsCell.keepX hv kN id⟩
 ·cases cell_f q hx with
  | new hm lo i m=>cases cell_f q hy with
   | new _ _ _ m'=>exact name_of_addr (cells_ok h sc).apart m m'
   | old n m'=>exact absurd rfl (young m' lo)
  | old n m=>cases cell_f q hy with
   | new _ lo _ m'=>exact absurd rfl (young m lo)
   | old n m'=>exact e.apart x y c m m'
 ·rw [kindN_lookup] at hk
  have kk:=kof (h:=h) (cl:=cl) (env:=env) hk
  cases k with
  | «local»=>exact kk
  | globalImplicit=>exact kk
  | globalExplicit=>exact trivial
  | cell=>exact ⟨kk,cell_some hk cl⟩
  | free=>
   obtain ⟨c,hc,f⟩:=free_in e hs q (mem_of_lookup hk)
   exact ⟨reK_free _ f.n kk,c,hc⟩
 ·cases f with
  | loc=>exact hns.elim fun o q=>q.elim fun zz q=>q.elim fun zz q=>⟨o,q.1⟩
  | cell k l=>cases cell_f q l with
   | new hm lo i m=>exact i.elim fun o q=>⟨o,q.1⟩
   | old n m=>exact (oldC m).elim fun o g=>⟨o,kN _ o g id⟩
 ·have inn:∀ {x sl},lookN x (inner sc σ)=some sl → lookN x σ=some sl:=fun hx=>(lookN_filter σ hx).2
  have back:∀ {x sl},lookN x σ=some sl → ∀ {a},Owns (cHeap h sc) sl (V x) a → Owns h sl (V x) a:=fun hx=>Owns.back (s.ok _ _ hx) fun b zz o g=>kN b o g id
  refine ⟨fun x sl hx=>?_,fun x sl hx=>(s.ok x sl (inn hx)).mono fit fun a w=>⟨.inl ((s.ok x sl (inn hx)).owned a w).1,fun o g=>kN a o g id⟩,fun x y sl sl' ne hx hy a wa wb=>s.apart x y sl sl' ne (inn hx) (inn hy) a (back (inn hx) wa) (back (inn hy) wb),fun x sl hx a w f=>?_,fun x sl hx a w=>s.noB x sl (inn hx) a (back (inn hx) w)⟩
  ·have h0:=lookN_filter σ hx
   have hk:=dec (show decide (kindN x sc.names=some .free)=true from h0.1)
   rw [kindN_lookup] at hk
   obtain ⟨c,hc,f⟩:=free_in e hs q (mem_of_lookup hk)
   cases s.at_ x sl h0.2 with
   | loc k n e=>exact absurd k f.k
   | cell k l ec=>
    rw [f.c] at l; cases l
    exact .cell (reK_free _ f.n (kof hk)) hc (IsCell.keepX ec kN id)
  ·have w0:=back (inn hx) w
   exact (comp_fra hs q f).elim (fun f=>((s.ok x sl (inn hx)).owned a w0).2.elim fun o g=>by rw [comp_nw q f] at g; cases g) fun f=>s.fra x sl (inn hx) a w0 f
end
theorem put_sub {σ₀ σ:Sg} {y:Nm} {v:Slot} (h:newN σ₀ y=true) (hs:∀ x sl,lookN x σ₀=some sl → lookN x σ=some sl):∀ x sl,lookN x σ₀=some sl → lookN x (putN y v σ)=some sl:=fun x sl hx=>by
 rw [lookN_put]
 by_cases e:x=y
 ·have h:(lookN y σ₀).isNone=true:=h
  rw [← e,hx] at h; cases h
 ·rw [if_neg e]; exact hs x sl hx
theorem bindN_sub {σ₀:Sg}:∀ {ts:List NP} {ds:List PV} {σ σ':Sg},(ts.all fun q=>newN σ₀ q.1)=true → (∀ x sl,lookN x σ₀=some sl → lookN x σ=some sl) → bindN ts ds σ=some σ' → ∀ x sl,lookN x σ₀=some sl → lookN x σ'=some sl
 | [],_,_,_,_,hs,h=>oif h fun zz h=>Option.some.inj h ▸ hs
 | _ :: _,[],_,_,_,_,h=>no h
 | q :: ts,d :: ds,σ,σ',hn,hs,h=>band hn fun h1 h2=>bindN_sub (ts:=ts) (ds:=ds) h2 (put_sub h1 hs) h
structure BindC (K:Ks) (t:Tg) (d:PV) (σ σ':Sg):Prop where
 b:bindT K t d σ=some σ'
 s:∀ x sl,lookN x σ=some sl → lookN x σ'=some sl
theorem bindC_sub {K:Ks} {t:Tg} {d:PV} {σ σ':Sg} (h:bindC K t d σ=some σ'):BindC K t d σ σ':=oif h fun c h=>⟨h,by
 cases t with
 | nm x p=>exact oif h fun zz h=>Option.some.inj h ▸ put_sub c fun zz zz h=>h
 | tup ts k p=>exact obind h fun l zz h=>oif h fun zz h=>bindN_sub c (fun zz zz h=>h) h⟩
structure CFix (K:Ks) (cenv:Env) (D:Addr) (s₀:Shared):Prop where
 nD:s₀.heap.get? D=none
 nF:∀ a,FraO K cenv a → s₀.heap.get? a=none
structure CInv (C:Cx) (K:Ks) (Z B:Addr → Prop) (cenv:Env) (D:Addr) (s₀:Shared) (σ:Sg) (ys:List PV) (s:Shared):Prop where
 env:EnvF C K Z B cenv s.heap σ
 acc:LV (fun zz=>True) s.heap listO (Reps C Z s.heap ys) (.ref D)
 ext:Ext NoX s₀ s
inductive Wr (K:Ks) (cenv:Env) (D:Addr):Addr → Prop
 | acc:Wr K cenv D D
 | fra {a:Addr} (f:FraO K cenv a):Wr K cenv D a
noncomputable abbrev Or2 (X Y:Addr → Prop):Addr → Prop:=fun a=>X a ∨ Y a
theorem Ext.fresh {W:Addr → Prop} {s₀ s s':Shared} (x:Ext NoX s₀ s) (y:Ext W s s') (hW:∀ a,W a → s₀.heap.get? a=none):Ext NoX s₀ s':=
 ⟨fun a o g zz=>y.keep a o (x.keep a o g id) fun w=>(by rw [hW a w] at g; cases g),y.os.trans x.os,y.gens.trans x.gens⟩
section
variable {C:Cx} {K:Ks} {Z Z' B B' W:Addr → Prop} {cenv:Env} {D:Addr} {s₀ s s':Shared} {σ σ':Sg} {ys:List PV}
theorem acc_keep {h h':Heap} (r:LV (fun zz=>True) h listO (Reps C Z h ys) (.ref D)) (g:∀ o,h.get? D=some o → h'.get? D=some o) (fit:Fit Z Z' h h'):LV (fun zz=>True) h' listO (Reps C Z' h' ys) (.ref D):=by
 cases r with | mk x e r=>exact ⟨x,g _ e,Reps.keep fit ys r⟩
theorem CInv.nox (i:CInv C K Z B cenv D s₀ σ ys s) (x:Ext NoX s s'):CInv C K Z B cenv D s₀ σ ys s':=⟨i.env.keep x.keep,acc_keep i.acc (fun o g=>x.keep D o g id) (.nox x.keep),i.ext.trans x⟩
theorem CInv.step (i:CInv C K Z B cenv D s₀ σ ys s) (x:Ext W s s') (wB:∀ a,W a → B a) (wD:¬ W D) (wn:∀ a,W a → s₀.heap.get? a=none) (live:∀ a,W a → ∃ o,s'.heap.get? a=some o):CInv C K Z B cenv D s₀ σ ys s':=by
 have k:=x.keep.mono wB
 exact ⟨i.env.move k (fun zz zz zz=>id) (fun zz zz zz z zz=>z) i.env.bX (fun zz zz zz=>id) i.env.newB fun a z=>(Classical.em (W a)).elim (live a) fun n=>(i.env.bnd a z).elim fun o g=>⟨o,x.keep a o g n⟩,acc_keep i.acc (fun o g=>x.keep D o g wD) (.of (k.mono i.env.bX)),i.ext.fresh x wn⟩
theorem CInv.bind (i:CInv C K Z B cenv D s₀ σ ys s) (fix:CFix K cenv D s₀) (hD:B D) (q:StR C K Z B cenv s σ' s'):CInv C K Z B cenv D s₀ σ' ys s':=
 ⟨q.e,acc_keep i.acc (fun o g=>q.x.keep D o g fun f=>i.env.fB D f.fra hD) (.of (q.x.keep.mono fun zz f=>i.env.fra f.fra)),i.ext.fresh q.x fix.nF⟩
theorem CInv.sub (i:CInv C K Z B cenv D s₀ σ' ys s) (hs:∀ x sl,lookN x σ=some sl → lookN x σ'=some sl):CInv C K Z B cenv D s₀ σ ys s:=⟨i.env.sub hs,i.acc,i.ext⟩
theorem CInv.drop (i:CInv C K (Or2 Z W) (Or2 B W) cenv D s₀ σ ys s) (x:Ext W s s') (wD:¬ W D) (wn:∀ a,W a → s₀.heap.get? a=none) (wZ:∀ a,W a → ¬ Z a) (bZ:∀ a,B a → Z a):CInv C K Z B cenv D s₀ σ ys s':=by
 have k:=x.keep.mono fun a (w:W a)=>(.inr w:B a ∨ W a)
 have nz:∀ a o,s.heap.get? a=some o → ¬ Or2 Z W a → ¬ Z a:=fun a o g n z=>n (.inl z)
 exact ⟨i.env.move k nz (fun a o g z n=>z.elim id fun w=>absurd (.inr w) n) bZ (fun zz zz zz b=>.inl b) (fun a z=>i.env.newB a (.inl z)) fun a z=>(i.env.bnd a (.inl z)).elim fun o g=>⟨o,x.keep a o g fun w=>wZ a w z⟩,acc_keep i.acc (fun o g=>x.keep D o g wD) ⟨fun a o g n=>x.keep a o g fun w=>n (.inr w),nz⟩,i.ext.fresh x wn⟩
end
section
variable {T:Th} {G:Gl} {A:Around} {X:Addr → Prop} {env:Env} {σ:Sg} {s:Shared}
noncomputable abbrev ifTurn (env:Env) (c:Expr) (r:Bool):Sem (ForInStep Bool):=if r=true then do let ok ← isTrue c env (eval c env); pure (ForInStep.yield ok) else pure (ForInStep.yield r)
theorem ifs_no {M:Model}:∀ l:List Expr,Tr M A (forIn l false (ifTurn env)) s (VR s false)
 | []=>fun Q E k=>by rw [List.forIn_nil]; exact wpAny_pure (k _ _ ⟨Ext.refl _ _,rfl⟩)
 | e :: r=>fun Q E k=>by rw [List.forIn_cons]; exact wpAny_bind (wpAny_pure (ifs_no r Q E k))
theorem ifs_ok {ifs:List E} (hs:Each (TSound T G) ifs):∀ {b:Bool} {s:Shared},trs G .And ifs σ=some b → ECtx T G σ A X env s → Tr (model T.prog T.w) A (forIn (bs ifs) true (ifTurn env)) s (VR s b):=by
 induction hs with
 | nil=>
  exact fun h c=>osome h fun Q E k=>by
   rw [show bs []=[] from rfl,List.forIn_nil]
   exact wpAny_pure (k _ _ ⟨Ext.refl _ _,rfl⟩)
 | cons p q ih=>
  exact fun h c=>obind h fun t ht h Q E k=>by
   rw [show ∀ e r,bs (e :: r)=e.b :: bs r from fun zz zz=>rfl,List.forIn_cons]
   refine wpAny_bind (wpAny_bind (p σ t ht A X env _ c _ E fun b' s₁ q1=>wpAny_pure ?_))
   cases q1.e
   cases t with
   | false=>exact ifs_no _ Q E fun b' s₂ q2=>k _ _ ⟨q1.x.trans q2.x,q2.e.trans (Option.some.inj h)⟩
   | true=>exact ih h (c.ext q1.x) Q E fun b' s₂ q2=>k _ _ ⟨q1.x.trans q2.x,q2.e⟩
end
theorem compLoop_cons {f:PV → Option (List PV)} {x:PV} {r l:List PV} {G:Prop} (h:compLoop f (x :: r)=some l) (k:∀ a b,f x=some a → compLoop f r=some b → l=a ++ b → G):G:=by
 unfold compLoop at h
 cases hf:f x with
 | none=>rw [hf] at h; cases h
 | some a=>cases hb:compLoop f r with
  | none=>rw [hf,hb] at h; cases h
  | some b=>rw [hf,hb] at h; exact k a b hf hb (Option.some.inj h).symm
noncomputable def turnOf (p:Pos) (t:Expr) (ifs:List Expr) (it:Value) (env:Env) (emit:Sem Fin) (c:Code):Sem Fin:=do
 standAt p
 match ← pyNext it with
 | none=>pure (.done .next)
 | some v=>
  letOwnedTupleGo t it v
  assign t env v
  let mut ok:=true
  for c in ifs do
   if ok then ok ← isTrue c env (eval c env)
  if ok then emit else again c
structure EmR (C:Cx) (K:Ks) (Z B:Addr → Prop) (cenv:Env) (D:Addr) (s₀:Shared) (σ:Sg) (ys:List PV) (c:Code) (s:Shared) (fin:Fin) (s':Shared):Prop where
 e:fin=.again c
 i:CInv C K Z B cenv D s₀ σ ys s'
 k:Keep (Wr K cenv D) s.heap s'.heap
noncomputable def EmitOk (T:Th) (G:Gl) (A:Around) (Z B:Addr → Prop) (cenv:Env) (D:Addr) (s₀:Shared) (c:Code) (emit:Sem Fin) (out:Sg → Option (List PV)):Prop:=
 ∀ σ a ys s,out σ=some a → (ys ++ a).length ≤ sizeLine → CInv T.C G.sc Z B cenv D s₀ σ ys s → Tr (model T.prog T.w) A emit s (EmR T.C G.sc Z B cenv D s₀ σ (ys ++ a) c s)
inductive LInv (C:Cx) (K:Ks) (Z B F:Addr → Prop) (cenv:Env) (D:Addr) (s₀:Shared) (σ:Sg) (St:(Addr → Prop) → List PV → Heap → Prop) (f:PV → Option (List PV)) (tot:List PV) (sB:Shared) (n:Nat) (s:Shared):Prop
 | mk {l ys r:List PV} (hn:l.length=n) (i:CInv C K (Or2 Z F) (Or2 B F) cenv D s₀ σ ys s) (st:St (Or2 Z F) l s.heap) (hl:compLoop f l=some r) (ht:ys ++ r=tot) (k:Keep (Or2 (Wr K cenv D) F) sB.heap s.heap):LInv C K Z B F cenv D s₀ σ St f tot sB n s
structure FFix (Z B F:Addr → Prop) (D:Addr) (s₀:Shared):Prop where
 bD:B D
 bZ:∀ a,B a → Z a
 nD:¬ F D
 n0:∀ a,F a → s₀.heap.get? a=none
 nZ:∀ a,F a → ¬ Z a
section
variable {T:Th} {G:Gl} {A:Around} {Z B F:Addr → Prop} {cenv:Env} {D:Addr} {s₀:Shared} {σ:Sg} {itv:Value} {t:Tg} {ifs:List E}
theorem loop_ok {elt:Expr} {gens:List Comprehension} {sc:Scope} {pos p:Pos} {depth:Nat} {emit:Sem Fin} {iv:Sg → Option (List PV)} {out:Sg → Option (List PV)} {St:(Addr → Prop) → List PV → Heap → Prop} {R:Result → Shared → Prop} {c:Code} (hc:c=.compLoop (.ListComp elt gens sc pos) depth itv (.ref D) cenv)
  (hturn:PySem.compTurn (.ListComp elt gens sc pos) depth itv (.ref D) cenv=turnOf p t.b (bs ifs) itv cenv emit c)
  (hh:A.handled=none) (fix:CFix G.sc cenv D s₀) (IK:IterOk (model T.prog T.w) A T.C t itv F St) (ff:FFix Z B F D s₀) (hifs:Each (TSound T G) ifs) (pa:T.P A) (hem:EmitOk T G A (Or2 Z F) (Or2 B F) cenv D s₀ c emit out)
  {l ys r:List PV} {s:Shared} (inv:CInv T.C G.sc (Or2 Z F) (Or2 B F) cenv D s₀ σ ys s) (st:St (Or2 Z F) l s.heap) (hl:compLoop (compTurn G.sc ⟨t,iv,trs G .And ifs⟩ out σ) l=some r) (hz:(ys ++ r).length ≤ sizeLine)
  (hR:∀ s',CInv T.C G.sc Z B cenv D s₀ σ (ys ++ r) s' → Keep (Or2 (Wr G.sc cenv D) F) s.heap s'.heap → R (.ok .next) s'):codeAny (model T.prog T.w) A c R s:=by
 subst hc
 refine codeAny_loop rfl (LInv T.C G.sc Z B F cenv D s₀ σ St (compTurn G.sc ⟨t,iv,trs G .And ifs⟩ out σ) (ys ++ r) s) (fun n s₁ hI=>?_) l.length (.mk rfl inv st hl rfl (Keep.refl _ _))
 cases hI with | @mk l ys' r' hn i st hl ht kB=>
 show wpAny _ A ((PySem.compTurn (.ListComp elt gens sc pos) depth itv (.ref D) cenv).onRaise (fun x=>do noteFrame x cenv; theTreesLotGoes x)) _ _ s₁
 refine wpAny_noted ?_
 rw [hturn]
 unfold turnOf
 refine wpAny_bind (wpAny_standAt (wpAny_bind ?_))
 have hF:∀ a,F a → Or2 Z F a:=fun zz h=>.inr h
 have toF:∀ {s s':Shared},Ext F s s' → Keep (Or2 (Wr G.sc cenv D) F) s.heap s'.heap:=fun x=>x.keep.mono fun zz f=>.inr f
 cases l with
 | nil=>
  refine IK.done _ s₁ st hF _ _ fun r₁ s₂ q=>?_
  cases q.e
  have e:ys'=ys ++ r:=(List.append_nil _).symm.trans ((congrArg (ys' ++ ·) (Option.some.inj hl)).trans ht)
  exact wpAny_pure (hR s₂ (e ▸ i.drop q.x ff.nD ff.n0 ff.nZ ff.bZ) (kB.trans (toF q.x)))
 | cons d l=>
  refine compLoop_cons hl fun a b ha hb hr=>obind ha fun σ' hbt ha=>obind ha fun tb htb ha=>?_
  cases hr
  have bc:=bindC_sub hbt
  refine IK.next _ d l s₁ st hF _ _ fun v s₂ q=>?_
  dsimp only
  refine wpAny_bind (q _ _ fun zz s₃ q=>?_)
  have i3:=i.step q.x (fun zz f=>.inr f) ff.nD ff.n0 (IK.live _ _ _ q.st)
  refine wpAny_bind (bind_ok hh bc.b i3.env q.i _ _ fun zz s₄ q4=>?_)
  have i4:=i3.bind fix (.inl ff.bD) q4
  have st4:St (Or2 Z F) l s₄.heap:=IK.keep _ _ _ _ _ q.st (.of (q4.x.keep.mono fun a f=>i3.env.fra f.fra)) fun a o fa g=>q4.x.keep a o g fun f=>i3.env.fB a f.fra (.inr fa)
  refine wpAny_bind (ifs_ok hifs htb ⟨pa,i4.env.off⟩ _ _ fun ok s₅ q5=>?_)
  cases q5.e
  have i5:=i4.nox q5.x
  have st5:St (Or2 Z F) l s₅.heap:=IK.keep _ _ _ _ _ st4 (.nox q5.x.keep) fun a o zz g=>q5.x.keep a o g id
  have k5:=(kB.trans (toF q.x)).trans ((q4.x.keep.mono fun a f=>(.inl (.fra f):Or2 (Wr G.sc cenv D) F a)).trans q5.x.keep.any)
  have hlt:l.length < n:=hn ▸ Nat.lt_succ_self _
  cases tb with
  | false=>
   cases ha
   exact wpAny_pure ⟨rfl,l.length,hlt,.mk rfl (i5.sub bc.s) st5 hb ht k5⟩
  | true=>
   have e:(ys' ++ a) ++ b=ys ++ r:=(List.append_assoc ..).trans ht
   refine hem σ' a ys' s₅ ha (Nat.le_trans (by rw [← e,List.length_append (bs:=b)]; exact Nat.le_add_right _ _) hz) i5 _ _ fun fin s₆ q6=>?_
   cases q6.e
   have wZ:∀ a,Wr G.sc cenv D a → Or2 Z F a:=fun a h=>by
    cases h with
    | acc=>exact .inl (ff.bZ D ff.bD)
    | fra f=>exact i5.env.fra f.fra
   have wF:∀ a,F a → ¬ Wr G.sc cenv D a:=fun a fa h=>by
    cases h with
    | acc=>exact ff.nD fa
    | fra f=>exact i5.env.fB a f.fra (.inr fa)
   exact ⟨rfl,l.length,hlt,.mk rfl (q6.i.sub bc.s) (IK.keep _ _ _ _ _ st5 (.of (q6.k.mono wZ)) fun a o fa g=>q6.k a o g (wF a fa)) hb e (k5.trans (q6.k.mono fun zz h=>.inl h))⟩
end
section
variable {C:Cx} {K:Ks} {Z B N W:Addr → Prop} {env cenv:Env} {D:Addr} {h h':Heap} {s₀ s s':Shared} {σ:Sg} {ys:List PV}
theorem EnvF.wr (e:EnvF C K Z B env h σ) (k:Keep W h h') (wB:∀ a,W a → B a) (live:∀ a,W a → ∃ o,h'.get? a=some o):EnvF C K Z B env h' σ:=
 e.move (k.mono wB) (fun zz zz zz=>id) (fun zz zz zz z zz=>z) e.bX (fun zz zz zz=>id) e.newB fun a z=>(Classical.em (W a)).elim (live a) fun n=>(e.bnd a z).elim fun o g=>⟨o,k a o g n⟩
theorem EnvF.grow (e:EnvF C K Z B env h σ) (k:Keep NoX h h') (new:∀ a,N a → h.get? a=none) (live:∀ a,N a → ∃ o,h'.get? a=some o):EnvF C K (Or2 Z N) (Or2 B N) env h' σ:=by
 have nn:∀ {a o},h.get? a=some o → ¬ N a:=fun g n=>by rw [new _ n] at g; cases g
 exact e.move k.any (fun a o g nz f=>f.elim nz (nn g)) (fun zz zz zz z zz=>.inl z) (fun a f=>f.imp (e.bX a) id) (fun a o g f=>f.elim id fun n=>absurd n (nn g)) (fun a f=>f.elim (e.newB a) fun n=>by
  cases g:C.hb.get? a with
  | none=>rfl
  | some o=>exact absurd n (nn (e.base a o g id))) fun a f=>f.elim (fun z=>(e.bnd a z).elim fun o g=>⟨o,k a o g id⟩) (live a)
theorem CInv.grow (i:CInv C K Z B cenv D s₀ σ ys s) (x:Ext NoX s s') (new:∀ a,N a → s.heap.get? a=none) (live:∀ a,N a → ∃ o,s'.heap.get? a=some o):CInv C K (Or2 Z N) (Or2 B N) cenv D s₀ σ ys s':=
 ⟨i.env.grow x.keep new live,acc_keep i.acc (fun o g=>x.keep D o g id) ⟨x.keep.any,fun a o g nz f=>f.elim nz fun n=>by rw [new a n] at g; cases g⟩,i.ext.trans x⟩
end
noncomputable def emit0 (elt:Expr) (acc:Value) (cenv:Env):Sem Unit:=do let _ ← call (.builtin "list.append") [acc,← eval elt cenv]
noncomputable def emit1 (e it1:Expr) (acc:Value) (cenv:Env) (c:Code):Sem Fin:=do
 let x ← eval it1 cenv
 standAt it1.pos
 let x ← foldedSetIterable it1 cenv x
 let _ ← runOwn (.compStart e 1 (← holding [x] (pyIter x)) acc cenv) cenv
 again c
theorem set_ok {G:Gl} {it:It} {σ:Sg} {xs:List PV} (h:iterOf G it σ=some xs) (env:Env) (x:Value):foldedSetIterable it.b env x=pure x:=by
 cases it with
 | val e=>cases e <;> first | rfl | exact no h
 | _=>rfl
inductive GnOk (T:Th) (G G':Gl):Gn → Prop
 | mk {t:Tg} {it:It} {ifs:List E} (i:tOk t it=true → ISound T G it t) (f:Each (TSound T G') ifs):GnOk T G G' (.mk t it ifs)
section
variable {T:Th} {G:Gl} {A:Around} {Z B F:Addr → Prop} {cenv:Env} {D:Addr} {s₀:Shared} {σ:Sg} {c:Code}
theorem emit_one {elt:E} (he:ESound T G elt) (pa:T.P A) (fix:CFix G.sc cenv D s₀) (hD:B D):EmitOk T G A Z B cenv D s₀ c (emit0 elt.b (.ref D) cenv >>= fun zz=>again c) (compRun G.sc (ev G elt) []):=fun σ a ys s ho hz i=>
 omap (G:=fun a=>(ys ++ a).length ≤ sizeLine → Tr (model T.prog T.w) A _ s (EmR T.C G.sc Z B cenv D s₀ σ (ys ++ a) c s)) ho (fun d hd hz Q E k=>by
  unfold emit0
  refine wpAny_bind (wpAny_bind (he σ _ (valO_some hd) A Z cenv s ⟨pa,i.env.off⟩ _ E fun v s₁ q=>?_))
  have i1:=i.nox q.x
  cases hacc:i1.acc with | @mk _ its n x g r=>
  have hlen:its.length ≤ sizeLine:=r.length ▸ Nat.le_trans (by rw [List.length_append]; exact Nat.le_add_right _ _) hz
  refine wpAny_bind (wpAny_list_append_plain (items:=its.toArray) ⟨n,g⟩ (fun h' hl hs=>wpAny_pure ?_) hlen)
  cases hl with | intro n' g'=>
  rw [List.push_toArray] at g'
  have kD:Keep (fun a=>a=D) s₁.heap h':=fun a o g na=>(hs.2 a na).trans g
  have fit:Fit Z Z s₁.heap h':=.of (kD.mono fun a e=>e ▸ i.env.bX D hD)
  have rd:Reps T.C Z h' [d] [v]:=⟨Rep.keep fit d q.r,rfl⟩
  exact wpAny_pure (k _ _ ⟨rfl,⟨i1.env.wr kD (fun a e=>e ▸ hD) fun a e=>⟨_,e ▸ g'⟩,⟨trivial,g',Reps.append rd (Reps.keep fit ys r)⟩,i1.ext.fresh ⟨kD,rfl,rfl⟩ fun a e=>e ▸ fix.nD⟩,q.x.keep.any.trans (kD.mono fun a e=>e ▸ .acc)⟩)) hz
theorem compStart_ok {elt t iter:Expr} {ifs:List Expr} {gens:List Comprehension} {sc:Scope} {pos:Pos} {d:Nat} {it acc:Value} {env:Env} {R:Result → Shared → Prop} {s:Shared} {prog:Program} {w:World} (hg:gens[d]?=some ⟨t,iter,ifs,0⟩)
  (h0:codeAny (model prog w) A (.compLoop (.ListComp elt gens sc pos) d it acc env) R s)
  (h:∀ Q E,Q it s → wpAny (model prog w) A (pyIter it) Q E s):codeAny (model prog w) A (.compStart (.ListComp elt gens sc pos) d it acc env) R s:=by
 refine codeAny_of_tree ?_
 show wpAny _ _ ((compStart (.ListComp elt gens sc pos) d it acc env).onRaise (fun x=>do noteFrame x env; standAt theWindowsPlace)) _ _ s
 refine wpAny_notedAt ?_
 unfold compStart
 have hc:(clausesOf (.ListComp elt gens sc pos))[d]?=some ⟨t,iter,ifs,0⟩:=hg
 rw [hc]
 show wpAny _ _ (ask >>= _) _ _ s
 refine wpAny_bind (wpAny_askSetting (wpAny_ite ?_))
 split
 ·first
   | exact wpAny_bind (wpAny_pure (wpAny_pure (And.intro rfl h0)))
   | exact wpAny_pure (And.intro rfl h0)
 ·refine wpAny_bind (wpAny_rule ?_)
  refine wpAny_bind (wpAny_standAt ?_)
  exact wpAny_bind (h _ _ (wpAny_pure (And.intro rfl h0)))
theorem emit_two {elt:E} {t t1:Tg} {it it1:It} {ifs ifs1:List E} {sc:Scope} {pos:Pos} (hh:A.handled=none) (he:ESound T G elt) (h1:GnOk T G G (.mk t1 it1 ifs1)) (pa:T.P A) (fix:CFix G.sc cenv D s₀) (hD:B D) :
  EmitOk T G A Z B cenv D s₀ c (emit1 (.ListComp elt.b [(Gn.mk t it ifs).b,(Gn.mk t1 it1 ifs1).b] sc pos) it1.b (.ref D) cenv c) (compRun G.sc (ev G elt) (gens G [.mk t1 it1 ifs1])):=fun σ a ys s ho hz i Q E k=>
 obind ho fun xs hxs hl=>oif hxs fun htok hxs=>by
  cases h1 with | mk hi hifs1=>
  unfold emit1
  refine wpAny_bind (hi htok σ xs hxs A Z cenv s ⟨pa,i.env.off⟩ _ E fun xv s₁ q=>wpAny_bind (wpAny_standAt ?_))
  rw [set_ok hxs]
  refine wpAny_bind (wpAny_pure (wpAny_bind (wpAny_holding (q _ _ fun itv s₂ m=>?_))))
  cases m with | @mk F1 St1 x2 IK1 f1 st1=>
  have ex:∀ {a o},s.heap.get? a=some o → ¬ F1 a:=fun g f=>by rw [f1 _ f] at g; cases g
  refine wpAny_bind (wpAny_runOwn (compStart_ok rfl ?_ fun Q' E' h=>IK1.self _ _ _ _ _ st1 h))
  refine loop_ok rfl (show PySem.compTurn (.ListComp elt.b [(Gn.mk t it ifs).b,(Gn.mk t1 it1 ifs1).b] sc pos) 1 itv (.ref D) cenv=turnOf it1.b.pos t1.b (bs ifs1) itv cenv (emit0 elt.b (.ref D) cenv >>= fun zz=>again _) _ from rfl) hh fix IK1 ⟨hD,i.env.bX,fun f=>?_,fun a f=>?_,fun a f z=>(i.env.bnd a z).elim fun o g=>ex g f⟩ hifs1 pa (emit_one he pa fix (.inl hD)) (i.grow x2 f1 (IK1.live _ _ _ st1)) st1 hl hz fun s' i' k'=>?_
  ·cases i.acc with | mk x g r=>exact ex g f
  ·exact i.ext.old (f1 a f)
  ·exact wpAny_pure (k _ _ ⟨rfl,i',fun b o g nb=>k' b o (x2.keep b o g id) fun f=>f.elim nb (ex g)⟩)
end
section
variable {M:Model} {A:Around} {E:Value → Shared → Prop} {s:Shared}
theorem newEnv_ok {sc:Scope} {cl:List (PySem.Str × Addr)} {env:Env} {Q:Env → Shared → Prop}
  (h:Q (newEnv sc s.heap.objs.size env.globals (cellsFrom (s.heap.objs.size + 1) sc.names cl) env.qual none .none (some env) builtinsNs) { s with heap:=cHeap s.heap sc }) :
  wpAny M A (newFunctionEnv sc env.globals cl [] env.qual none .none (some env)) Q E s:=by
 simp only [newFunctionEnv,Option.isSome_some,if_true]
 refine wpAny_bind (wpAny_alloc ?_)
 refine wpAny_bind (wpAny_layCells _ (fun name kind cells=>by cases hkc:kind == NameKind.cell <;> simp [hkc]) _ _ _ _ ?_)
 rw [show ({ s with heap:=s.heap.push { cls:=.type "dict",data:=.dict #[] } }:Shared).heap.objs.size=s.heap.objs.size + 1 from Heap.size_push ..]
 refine wpAny_bind ?_
 rw [List.forIn_nil]
 exact wpAny_pure (wpAny_pure h)
end
structure CompDone (C:Cx) (X:Addr → Prop) (s:Shared) (l:List PV) (D L:Addr) (s':Shared):Prop where
 ext:Ext NoX s s'
 newD:s.heap.get? D=none
 newL:s.heap.get? L=none
 ne:D ≠ L
 ns:∃ m,s'.heap.Ns L m
 acc:LV (fun zz=>True) s'.heap listO (Reps C (Or2 (Or2 X fun a=>a=D) fun a=>a=L) s'.heap l) (.ref D)
structure CompP (T:Th) (G:Gl) (elt:E) (g:Gn) (gs:List Gn) (sc:Scope):Prop where
 elt:ESound T { G with sc:=sc.names } elt
 g:GnOk T G { G with sc:=sc.names } g
 gs:∀ g' ∈ gs,GnOk T { G with sc:=sc.names } { G with sc:=sc.names } g'
section
variable {T:Th} {G:Gl} {A:Around} {Z B F:Addr → Prop} {cenv:Env} {D:Addr} {s₀:Shared} {σ:Sg}
theorem comp_run {elt:E} {t:Tg} {it:It} {ifs:List E} {gs:List Gn} {sc:Scope} {pos:Pos} {St:(Addr → Prop) → List PV → Heap → Prop} {itv:Value} (hh:A.handled=none) (he:ESound T G elt) (hi:Each (TSound T G) ifs) (hg:∀ g' ∈ gs,GnOk T G G g') (hn:gs.length ≤ 1) (pa:T.P A) (fix:CFix G.sc cenv D s₀)
  (IK:IterOk (model T.prog T.w) A T.C t itv F St) (ff:FFix Z B F D s₀) {xs l:List PV} {s:Shared} (i:CInv T.C G.sc (Or2 Z F) (Or2 B F) cenv D s₀ σ [] s) (st:St (Or2 Z F) xs s.heap)
  (hl:compLoop (compTurn G.sc (gen1 G (.mk t it ifs)) (compRun G.sc (ev G elt) (gens G gs)) σ) xs=some l) (hz:l.length ≤ sizeLine) {R:Result → Shared → Prop} (hR:∀ s',CInv T.C G.sc Z B cenv D s₀ σ l s' → R (.ok .next) s') :
  codeAny (model T.prog T.w) A (.compStart (.ListComp elt.b ((Gn.mk t it ifs).b :: gbs gs) sc pos) 0 itv (.ref D) cenv) R s:=by
 refine compStart_ok rfl ?_ fun Q' E' h=>IK.self _ _ _ _ _ st h
 cases gs with
 | nil=>exact loop_ok (emit:=emit0 elt.b (.ref D) cenv >>= fun zz=>again _) rfl rfl hh fix IK ff hi pa (emit_one he pa fix (.inl ff.bD)) i st hl hz fun s' i' zz=>hR s' i'
 | cons g1 gs=>cases gs with
  | nil=>
   cases g1 with | mk t1 it1 ifs1=>
   exact loop_ok (emit:=emit1 (.ListComp elt.b [(Gn.mk t it ifs).b,(Gn.mk t1 it1 ifs1).b] sc pos) it1.b (.ref D) cenv _) rfl rfl hh fix IK ff hi pa (emit_two hh he (hg _ (.head _)) pa fix (.inl ff.bD)) i st hl hz fun s' i' zz=>hR s' i'
  | cons g2 gs=>exact absurd (Nat.le_of_succ_le_succ hn) (Nat.not_succ_le_zero _)
end
section
variable {T:Th} {G:Gl} {A:Around} {X:Addr → Prop} {env:Env} {σ:Sg} {s:Shared} {E:Value → Shared → Prop} {Q:Value → Shared → Prop}
theorem EnvF.congr {C:Cx} {K:Ks} {X X' B B':Addr → Prop} {h:Heap} (e:EnvF C K X B env h σ) (hx:∀ a,X a ↔ X' a) (hb:∀ a,B a ↔ B' a):EnvF C K X' B' env h σ:=by
 rw [show X'=X from funext fun a=>propext (hx a).symm,show B'=B from funext fun a=>propext (hb a).symm]
 exact e
theorem comp_mid {elt:V.E} {t:Tg} {it:It} {ifs:List V.E} {gs:List Gn} {sc:Scope} {pos:Pos} {xs l:List PV} {F:Addr → Prop} {St:(Addr → Prop) → List PV → Heap → Prop} {itv:Value} {s₂ s4:Shared} {h3:Heap} {D:Addr} {cenv:Env} {R:Result → Shared → Prop} (he:ESound T { G with sc:=sc.names } elt) (hi:Each (TSound T { G with sc:=sc.names }) ifs)
  (hg:∀ g' ∈ gs,GnOk T { G with sc:=sc.names } { G with sc:=sc.names } g') (hh:A.handled=none) (hn:gs.length ≤ 1) (pa:T.P A) (hz:l.length ≤ sizeLine)
  (hl:compLoop (compTurn sc.names (gen1 { G with sc:=sc.names } (.mk t it ifs)) (compRun sc.names (ev { G with sc:=sc.names } elt) (gens { G with sc:=sc.names } gs)) (inner sc σ)) xs=some l) (bX:∀ a,X a → ∃ o,s.heap.get? a=some o)
  (IK:IterOk (model T.prog T.w) A T.C t itv F St) (x2:Ext NoX s s₂) (f2:∀ a,F a → s.heap.get? a=none) (st2:St (fun a=>X a ∨ F a) xs s₂.heap) (hD:s₂.heap.get? D=none) (k23:Keep NoX s₂.heap h3) (gD:h3.get? D=some (listO [] 0))
  (ce:CompE T.C (Or2 X (Or2 (fun a=>a=D) F)) (Or2 NoX (Or2 (fun a=>a=D) F)) env h3 sc cenv s4.heap σ) (x24:Ext NoX s₂ s4) (hP:∀ L s',CompDone T.C X s l D L s' → cenv.locals=L → R (.ok .next) s') :
  codeAny (model T.prog T.w) A (.compStart (.ListComp elt.b ((Gn.mk t it ifs).b :: gbs gs) sc pos) 0 itv (.ref D) cenv) R s4:=by
 have lF:=IK.live _ _ _ st2
 have nw2:∀ {a o},FraO sc.names cenv a → s₂.heap.get? a=some o → False:=fun f g=>by have:=ce.nw _ f; rw [k23 _ _ g id] at this; cases this
 have nw:∀ a,FraO sc.names cenv a → s.heap.get? a=none:=fun a f=>by
  cases g:s.heap.get? a with
  | none=>rfl
  | some o=>exact (nw2 f (x2.keep _ _ g id)).elim
 have nFD:¬ F D:=fun f=>(lF D f).elim fun o g=>by rw [hD] at g; cases g
 refine comp_run (G:={ G with sc:=sc.names }) (Z:=Or2 (Or2 X fun a=>a=D) (FraO sc.names cenv)) (B:=fun a=>a=D) (D:=D) (s₀:=s) hh he hi hg hn pa ⟨x2.old hD,nw⟩ IK ⟨rfl,fun a e=>.inl (.inr e),nFD,f2,fun a f z=>z.elim (fun z=>z.elim (fun x=>(bX a x).elim fun o g=>by rw [f2 a f] at g; cases g) fun e=>nFD (e ▸ f)) fun w=>(lF a f).elim fun o g=>nw2 w g⟩
  ⟨ce.e.congr (fun a=>⟨fun z=>z.elim (fun z=>z.elim (fun x=>.inl (.inl (.inl x))) fun z=>z.elim (fun e=>.inl (.inl (.inr e))) .inr) fun f=>.inl (.inr f),fun z=>z.elim (fun z=>z.elim (fun z=>z.elim (fun x=>.inl (.inl x)) fun e=>.inl (.inr (.inl e))) .inr) fun f=>.inl (.inr (.inr f))⟩) fun a=>⟨fun z=>z.elim nofun id,.inr⟩,⟨trivial,ce.k _ _ gD id,rfl⟩,x2.trans x24⟩
  (IK.keep _ _ _ _ _ st2 ⟨x24.keep.any,fun a o g n z=>z.elim (fun z=>z.elim (fun z=>z.elim (fun x=>n (.inl x)) fun e=>by rw [e,hD] at g; cases g) fun f=>nw2 f g) fun f=>n (.inr f)⟩ fun a o zz g=>x24.keep a o g id) hl hz fun s' i=>hP _ s' ⟨i.ext,x2.old hD,nw _ .loc,fun e=>(by have:=ce.nw _ (e ▸ .loc:FraO sc.names cenv D); rw [gD] at this; cases this),i.env.ns,?_⟩ rfl
 exact LV.map i.acc (fun zz zz zz g=>⟨trivial,g⟩) fun zz=>Reps.keep ⟨Keep.refl _ _,fun a o g n z=>n (z.elim .inl fun e=>.inr (e ▸ .loc))⟩ l
theorem comp_core {elt:V.E} {g:Gn} {gs:List Gn} {sc:Scope} {pos:Pos} {use:Option (Value → Sem Unit)} {xs l:List PV} (hp:CompP T G elt g gs sc) (hh:A.handled=none) (hn:gs.length ≤ 1) (hs:scOk G.sc sc=true) (hxs:gen0 G g σ=some xs)
  (hl:compLoop (compTurn sc.names (gen1 { G with sc:=sc.names } g) (compRun sc.names (ev { G with sc:=sc.names } elt) (gens { G with sc:=sc.names } gs)) (inner sc σ)) xs=some l) (hz:l.length ≤ sizeLine) (c:ECtx T G σ A X env s)
  (hP:∀ D L s',CompDone T.C X s l D L s' → compPost (model T.prog T.w) A E use Q (.ref D) L (.ok .next) s') :
  wpAny (model T.prog T.w) A (comprehension (.ListComp elt.b (g.b :: gbs gs) sc pos) sc env (firstIterPos (g.b :: gbs gs) pos) (newList []) false (eval (Comprehension.iter g.b) env) use) Q E s:=by
 cases hp.g with | @mk t it ifs hit hif=>
 refine oif hxs fun htok hxs=>?_
 obtain ⟨cl,hc1,q⟩:=closure_of c.e hs
 refine wpAny_comprehension_free (use:=use) rfl (fun x=>set_ok hxs env x) hc1 (sc_kind hs) (fun x hx hloc=>by rw [← hloc]; exact (sc_mem hs hx).l) ?_
 refine hit htok σ xs hxs A X env s c _ E fun xv s₁ q1=>q1 _ _ fun itv s₂ m=>?_
 cases m with | @mk F St x2 IK f2 st2=>
 refine wpAny_newObj_type (newEnv_ok ?_)
 dsimp only
 have hD:s₂.heap.get? s₂.heap.objs.size=none:=none_size (Nat.le_refl _)
 have k23:Keep NoX s₂.heap (s₂.heap.push (listO [] 0)):=Keep.push _ _ _
 have gD:(s₂.heap.push (listO [] 0)).get? s₂.heap.objs.size=some (listO [] 0):=Heap.get?_push_size _ rfl
 show codeAny _ A (.compStart (.ListComp elt.b ((Gn.mk t it ifs).b :: gbs gs) sc pos) 0 itv (.ref s₂.heap.objs.size) (cEnv (s₂.heap.push (listO [] 0)) sc cl env)) _ { s₂ with heap:=cHeap (s₂.heap.push (listO [] 0)) sc }
 generalize s₂.heap.objs.size=D at hD gD ⊢
 generalize s₂.heap.push (listO [] 0)=h3 at k23 gD ⊢
 have e3:=c.e.grow (N:=Or2 (fun a=>a=D) F) (x2.keep.trans k23) (fun a f=>f.elim (fun e=>e ▸ x2.old hD) (f2 a)) fun a f=>f.elim (fun e=>⟨_,e ▸ gD⟩) fun f=>(IK.live _ _ _ st2 a f).elim fun o g=>⟨o,k23 a o g id⟩
 have ce:=comp_env e3 hs q
 exact comp_mid hp.elt hif hp.gs hh hn c.pa hz hl c.e.bnd IK x2 f2 st2 hD k23 gD ce ⟨k23.trans ce.k,rfl,rfl⟩ fun L s' d e=>e ▸ hP D L s' d
end
structure CompV (G:Gl) (elt:E) (g:Gn) (gs:List Gn) (sc:Scope) (σ:Sg) (xs l:List PV):Prop where
 hs:scOk G.sc sc=true
 hn:gs.length ≤ 1
 hxs:gen0 G g σ=some xs
 hl:compLoop (compTurn sc.names (gen1 { G with sc:=sc.names } g) (compRun sc.names (ev { G with sc:=sc.names } elt) (gens { G with sc:=sc.names } gs)) (inner sc σ)) xs=some l
 hz:l.length ≤ sizeLine
theorem comp_ev {G:Gl} {elt:E} {g:Gn} {gs:List Gn} {sc:Scope} {p:Pos} {σ:Sg} {d:EV} {P:EV → Prop} (h:ev G (.comp elt g gs sc p) σ=some d) (k:∀ xs l,CompV G elt g gs sc σ xs l → P (.v (.list l))):P d:=
 oif h fun c h=>band c fun c1 c2=>obind h fun xs hxs h=>obind h fun l hl h=>oif h fun z h=>osome h (k xs l ⟨c1,dec c2,hxs,hl,smallN_le z⟩)
section
variable {C:Cx} {X:Addr → Prop} {s s':Shared} {l:List PV} {D L:Addr}
theorem CompDone.gone (c:CompDone C X s l D L s') {h':Heap} (hs:Heap.SameBut L s'.heap h') (bX:∀ a,X a → ∃ o,s.heap.get? a=some o):FR C X s (.v (.list l)) (.ref D) { s' with heap:=h' }:=by
 have kL:Keep (fun a=>a=L) s'.heap h':=fun a o g n=>(hs.2 a n).trans g
 cases hacc:c.acc with | mk x g r=>
 have g':=kL _ _ g c.ne
 have r':∀ Y:Addr → Prop,(∀ a,Y a → Or2 (Or2 X fun a=>a=D) (fun a=>a=L) a) → Reps C Y h' l _:=fun Y hy=>Reps.keep ⟨kL.mono fun a e=>.inr e,fun a o g n y=>n (hy a y)⟩ l r
 exact ⟨⟨c.ext.fresh ⟨kL,rfl,rfl⟩ fun a e=>e ▸ c.newL,fun x=>(bX D x).elim fun o g=>(by rw [c.newD] at g; cases g),g',r' X fun a x=>.inl (.inl x)⟩,fun ys e=>by cases e; exact ⟨c.newD,g',r' _ fun a h=>.inl h⟩⟩
end
theorem sComp {T:Th} {G:Gl} (hG:∀ A,T.P A → Bud A) {elt:E} {g:Gn} {gs:List Gn} {sc:Scope} {p:Pos} (hp:CompP T G elt g gs sc):FSound T G (.comp elt g gs sc p):=fun σ d h=>
 comp_ev (P:=fun d=>∀ A X env s,ECtx T G σ A X env s → Tr (model T.prog T.w) A (eval (E.comp elt g gs sc p).b env) s (FR T.C X s d)) h fun xs l v A X env s c Q E k=>by
  show wpAny _ _ (eval (.ListComp elt.b (g.b :: gbs gs) sc p) env) _ _ _
  rw [eval_ListComp]
  cases g
  exact comp_core (use:=none) hp (hG A c.pa).handled v.hn v.hs v.hxs v.hl v.hz c fun D L s' cd=>cd.ns.imp fun m hm=>⟨hm,fun h' hs'=>k _ _ (cd.gone hs' c.e.bnd)⟩
structure Step (X B X':Addr → Prop) (s s':Shared):Prop where
 g:∀ a,X a → X' a
 n:∀ a o,s.heap.get? a=some o → ¬ X a → ¬ X' a
 x:Ext (fun a=>X a ∧ ¬ B a) s s'
inductive FlowOk (C:Cx) (B:Addr → Prop) (h:Heap):Fl → Flow → Prop
 | next:FlowOk C B h .next .next
 | brk:FlowOk C B h .brk .brk
 | ret {d:PV} {v:Value} (r:Rep C B h d v):FlowOk C B h (.ret d) (.ret v)
inductive SOut (C:Cx) (K:Ks) (env:Env) (X B:Addr → Prop) (s:Shared) (fl:Fl) (σ:Sg) (f:Flow) (s':Shared):Prop
 | mk {X':Addr → Prop} (t:Step X B X' s s') (e:EnvF C K X' B env s'.heap σ) (o:FlowOk C B s'.heap fl f):SOut C K env X B s fl σ f s'
structure SCtx (T:Th) (G:Gl) (σ:Sg) (A:Around) (X B:Addr → Prop) (env:Env) (s:Shared):Prop where
 pa:T.P A
 e:EnvF T.C G.sc X B env s.heap σ
theorem SCtx.c {T:Th} {G:Gl} {σ:Sg} {A:Around} {X B:Addr → Prop} {env:Env} {s:Shared} (c:SCtx T G σ A X B env s):ECtx T G σ A X env s:=⟨c.pa,c.e.off⟩
theorem SCtx.ext {T:Th} {G:Gl} {σ:Sg} {A:Around} {X B:Addr → Prop} {env:Env} {s s':Shared} (c:SCtx T G σ A X B env s) (x:Ext NoX s s'):SCtx T G σ A X B env s':=⟨c.pa,c.e.keep x.keep⟩
noncomputable def SClaim (T:Th) (G:Gl) (st:S) (σ:Sg) (fl:Fl) (σ':Sg):Prop:=∀ A X B env s,SCtx T G σ A X B env s → Tr (model T.prog T.w) A (exec st.b env) s (SOut T.C G.sc env X B s fl σ')
noncomputable def SSound (T:Th) (G:Gl) (st:S):Prop:=∀ σ fl σ',ex G st σ=some (fl,σ') → SClaim T G st σ fl σ'
noncomputable def SsSound (T:Th) (G:Gl) (sts:List S):Prop:=∀ σ fl σ',exs G sts σ=some (fl,σ') → ∀ A X B env s,SCtx T G σ A X B env s → Tr (model T.prog T.w) A (execs (sbs sts) env) s (SOut T.C G.sc env X B s fl σ')
section
variable {C:Cx} {K:Ks} {env:Env} {X X' X'' B:Addr → Prop} {s s' s'':Shared} {fl:Fl} {σ:Sg} {f:Flow}
theorem Step.refl (X B:Addr → Prop) (s:Shared):Step X B X s s:=⟨fun zz=>id,fun zz zz zz=>id,Ext.refl _ _⟩
theorem Step.nox (x:Ext NoX s s'):Step X B X s s':=⟨fun zz=>id,fun zz zz zz=>id,x.any⟩
theorem Step.trans (a:Step X B X' s s') (b:Step X' B X'' s' s''):Step X B X'' s s'':=
 ⟨fun c x=>b.g c (a.g c x),fun c o g n=>b.n c o (a.x.keep c o g fun y=>n y.1) (a.n c o g n),fun c o g n=>b.x.keep c o (a.x.keep c o g n) fun y=>(Classical.em (X c)).elim (fun x=>n ⟨x,y.2⟩) fun x=>a.n c o g x y.1,b.x.os.trans a.x.os,b.x.gens.trans a.x.gens⟩
theorem Step.less {B':Addr → Prop} (a:Step X B' X' s s') (h:∀ a,B a → B' a):Step X B X' s s':=⟨a.g,a.n,a.x.mono fun zz y=>⟨y.1,fun b=>y.2 (h _ b)⟩⟩
theorem SOut.pre (t:Step X B X' s s') (q:SOut C K env X' B s' fl σ f s''):SOut C K env X B s fl σ f s'':=by
 cases q with | mk t' e f=>exact ⟨t.trans t',e,f⟩
theorem SOut.sub {σ':Sg} (q:SOut C K env X B s fl σ' f s') (h:∀ x sl,lookN x σ=some sl → lookN x σ'=some sl):SOut C K env X B s fl σ f s':=by
 cases q with | mk t e f=>exact ⟨t,e.sub h,f⟩
theorem SOut.nox (e:EnvF C K X B env s'.heap σ) (x:Ext NoX s s'):SOut C K env X B s .next σ .next s':=⟨.nox x,e,.next⟩
theorem EnvF.fraW (e:EnvF C K X B env s.heap σ):∀ a,FraO K env a → X a ∧ ¬ B a:=fun a f=>⟨e.fra f.fra,e.fB a f.fra⟩
theorem StR.out {σ':Sg} (e:EnvF C K X B env s.heap σ) (q:StR C K X B env s σ' s'):SOut C K env X B s .next σ' .next s':=⟨⟨fun zz=>id,fun zz zz zz=>id,q.x.mono e.fraW⟩,q.e,.next⟩
end
section
variable {T:Th} {G:Gl} {t:E} {a b:List S} {p:Pos}
theorem ssNil:SsSound T G []:=fun σ fl σ' h A X B env s c Q E k=>by
 cases h
 exact wpAny_execs_nil (k _ _ (.nox c.e (Ext.refl _ _)))
theorem ssCons {st:S} (h1:SSound T G st) (h2:SsSound T G a):SsSound T G (st :: a):=fun σ fl σ' h A X B env s c Q E k=>by
 have h:thenS (ex G st σ) (exs G a)=some (fl,σ'):=h
 cases hx:ex G st σ with
 | none=>rw [hx] at h; cases h
 | some p=>
  obtain ⟨fl1,σ1⟩:=p
  rw [hx] at h
  refine wpAny_execs_cons (h1 σ fl1 σ1 hx A X B env s c _ E fun f s₁ q=>?_)
  cases q with | mk t e hf=>cases hf with
   | next=>exact h2 σ1 fl σ' h A _ B env s₁ ⟨c.pa,e⟩ Q E fun f s₂ q=>k f s₂ (q.pre t)
   | brk=>cases h; exact k _ _ ⟨t,e,.brk⟩
   | ret r=>cases h; exact k _ _ ⟨t,e,.ret r⟩
theorem ssIf (ht:TSound T G t) (ha:SsSound T G a) (hb:SsSound T G b):SSound T G (.ife t a b p):=fun σ fl σ' h=>obind h fun c hc h A X B env s x Q E k=>
 wpAny_If (ht σ c hc A X env s x.c _ E fun b' s₁ q=>by
  cases q.e
  cases c with
  | true=>exact ha σ fl σ' h A X B env s₁ (x.ext q.x) Q E fun f s₂ q2=>k f s₂ (q2.pre (.nox q.x))
  | false=>exact hb σ fl σ' h A X B env s₁ (x.ext q.x) Q E fun f s₂ q2=>k f s₂ (q2.pre (.nox q.x)))
theorem ssBreak:SSound T G (.brk p):=fun σ fl σ' h A X B env s c Q E k=>by
 cases h
 exact wpAny_Break (k _ _ ⟨Step.refl _ _ _,c.e,.brk⟩)
theorem ssPass:SSound T G (.pass p):=fun σ fl σ' h A X B env s c Q E k=>by
 cases h
 exact wpAny_Pass (k _ _ (.nox c.e (Ext.refl _ _)))
inductive WInv (T:Th) (G:Gl) (X B:Addr → Prop) (env:Env) (s₀:Shared) (r:Rs) (go:Nat → Sg → Rs) (n:Nat) (s:Shared):Prop
 | mk {X':Addr → Prop} {σ:Sg} (t:Step X B X' s₀ s) (e:EnvF T.C G.sc X' B env s.heap σ) (h:go n σ=r):WInv T G X B env s₀ r go n s
theorem ssWhile (ht:TSound T G t) (ha:SsSound T G a) (hb:SsSound T G b):SSound T G (.whl t a b p):=fun σ fl σ' h A X B env s c Q E k=>by
 refine wpAny_While (codeAny_whileLoop (WInv T G X B env s (some (fl,σ')) (whileLoop (fun σ=>tr G t σ (ev G t σ)) (exs G a) (exs G b))) (fun n s₁ hI=>?_) G.fuel (.mk (Step.refl _ _ _) c.e h))
 cases hI with | @mk X' σ1 t1 e1 h=>
 cases n with
 | zero=>cases h
 | succ n=>
  unfold whileLoop at h
  cases htr:tr G t σ1 (ev G t σ1) with
  | none=>rw [htr] at h; cases h
  | some b'=>
   rw [htr] at h
   have c1:SCtx T G σ1 A X' B env s₁:=⟨c.pa,e1⟩
   refine ht σ1 b' htr A X' env s₁ c1.c _ _ fun b2 s₂ q=>?_
   cases q.e
   cases b' with
   | false=>exact hb σ1 fl σ' h A X' B env s₂ (c1.ext q.x) _ _ fun f s₃ q3=>k f s₃ (q3.pre (t1.trans (.nox q.x)))
   | true=>
    cases hx:exs G a σ1 with
    | none=>rw [hx] at h; cases h
    | some r=>
     obtain ⟨fl2,σ2⟩:=r
     rw [hx] at h
     refine ha σ1 fl2 σ2 hx A X' B env s₂ (c1.ext q.x) _ _ fun f s₃ q3=>?_
     cases q3.pre (t1.trans (.nox q.x)) with | mk t3 e3 hf=>cases hf with
      | next=>exact ⟨n,Nat.lt_succ_self _,t3,e3,h⟩
      | brk=>cases h; exact k _ _ ⟨t3,e3,.next⟩
      | ret r=>cases h; exact k _ _ ⟨t3,e3,.ret r⟩
end
noncomputable def LUp (h:Heap) (l:Addr) (its:List Value) (h':Heap):Prop:=(∃ n,h'.get? l=some (listO its n)) ∧ Keep (fun a=>a=l) h h'
section
variable {prog:Program} {w:World} {A:Around} {E:Value → Shared → Prop} {s:Shared} {l b:Addr} {its its' its2:List Value} {n n2:Nat}
theorem lup {h:Heap} (g:h.get? l=some (listO its n)) (f:Array Value → Array Value) (hf:f its.toArray=its'.toArray):LUp h l its' (h.update l (Obj.mapSeq f)):=by
 refine ⟨?_,fun a o e na=>((Heap.SameBut.update (h:=h) (a:=l) (f:=Obj.mapSeq f)).2 a na).trans e⟩
 have e:Obj.mapSeq f (listO its n)=listO its' (if its'.toArray.size == its.toArray.size then n else n + 1):=by
  show ({ cls:=.type "list",data:=.seq (f its.toArray) (if ((f its.toArray).size == its.toArray.size) then n else n + 1) }:Obj)=_
  rw [hf]
 exact ⟨_,(Heap.get?_update_self _ g (by rw [e]; rfl)).trans (congrArg some e)⟩
theorem hfi_list:fillsInplaceSlot (.type "list") "add" (Operator.Add == .Add)=pure false:=by
 unfold fillsInplaceSlot
 show (typeLookup (.type "list") (dunderI "add") >>= fun fi=>pure (fi.isSome && !isSeqSlot fi))=pure false
 rw [F.slot_list_iadd.lookup]
 have:((some (Value.builtin "list.__iadd__")).isSome && !isSeqSlot (some (Value.builtin "list.__iadd__")))=false:=by decide +kernel
 show (pure ((some (Value.builtin "list.__iadd__")).isSome && !isSeqSlot (some (Value.builtin "list.__iadd__"))):Sem Bool)=pure false
 rw [this]
theorem iadd_list {Q:Value → Shared → Prop} (hl:s.heap.get? l=some (listO its n)) (hb:s.heap.get? b=some (listO its2 n2)) (hz:its.length + its2.length ≤ sizeLine)
  (h:∀ h',LUp s.heap l (its ++ its2) h' → Q (.ref l) { s with heap:=h' }):wpAny (model prog w) A (inplaceOp .Add (.ref l) (.ref b)) Q E s:=by
 have tl:s.TypeIs (.ref l) "list" := ⟨_,hl,rfl⟩
 have tb:s.TypeIs (.ref b) "list" := ⟨_,hb,rfl⟩
 unfold inplaceOp
 refine wpAny_holding ?_
 refine wpAny_bind (wpAny_typeOf tl (wpAny_bind (wpAny_of_eq hfi_list ?_)))
 show wpAny _ _ (if false=true then _ else _) Q E s
 rw [if_neg Bool.false_ne_true]
 refine wpAny_bind (wpAny_binaryOp1_none (nm := "add") tl tb PySem.noFill_list_add ?_)
 refine wpAny_bind (wpAny_of_eq (PySem.seqSlot_of F.slot_list_iadd.lookup (by decide +kernel)) ?_)
 have h2:its.toArray.size + its2.toArray.size ≤ sizeLine:=hz
 exact wpAny_bind (wpAny_rule (call_meets F.slot_list_iadd tl F.entry_list_iadd (F.args_list_iadd_2 _ _) (AutoSeq1.list___iadd___list_list_0 l its.toArray n b its2.toArray n2 (by simp only [Builtin.List.listTooLong,Bool.and_eq_true,decide_eq_true_eq]; exact fun q=>Nat.not_lt.mpr h2 q.2) (Nat.le_trans (Nat.le_add_right _ _) h2) (Nat.le_succ_of_le h2)) ⟨hl,hb,h _ (lup hl (fun x=>x ++ its2.toArray) (List.append_toArray ..))⟩))
theorem setItem_list {i:Int} {t:Tok} {u v:Value} {Q:Unit → Shared → Prop} (g:s.heap.get? l=some (listO its n)) {j:Nat} (q:AtI its i u) (hj:seqIndex? i its.length=some j)
  (h:∀ h',LUp s.heap l (its.set j v) h' → Q () { s with heap:=h' }):wpAny (model prog w) A (setItem (.ref l) (.int i t) v) Q E s:=by
 have hl:s.heap.IsList l its.toArray:=⟨_,g,rfl,n,rfl⟩
 unfold setItem
 try with_reducible refine wpAny_holding ?_
 first | refine wpAny_bind (wpAny_pure ?_) | skip
 refine wpAny_bind (wpAny_sequenceKey hl.typeIs (by decide) ?_)
 refine wpAny_bind (wpAny_callSpecial?_slot (name:=Str.ofString "__setitem__") hl.typeIs slot_list_setitem
  (wpAny_call_entry slot_list_setitem hl.typeIs entry_list_setitem ?_ (args_list_setitem _ _ _)))
 show wpAny _ _ (Builtin.List.listSubscript? (.int i t) >>= _) _ _ s
 have hq:=h _ (lup g (fun x=>x.setIfInBounds j v) (List.setIfInBounds_toArray ..))
 have fin:∀ {Q':Fin → Shared → Prop} {E':Value → Shared → Prop},(∀ f s',f=.done (.ret .none) → Q () s' → Q' f s') → wpAny (model prog w) A.in1 (do setSeqItemAt l j v; ret .none) Q' E' s:=fun k=>wpAny_bind (wpAny_setSeqItemAt g rfl (wpAny_pure (k _ _ rfl hq)))
 cases q with
 | pos z h0 e=>
  refine wpAny_bind (wpAny_listSubscript_int (fitsIndex_of h0 (fit63 z).1) ?_)
  obtain ⟨k,rfl⟩:=Int.eq_ofNat_of_zero_le h0
  rw [idx_pos h0 e] at hj
  cases hj
  show wpAny _ _ ((seqItemAt l k >>= fun r=>pure (r.map (k,·))) >>= _) _ _ s
  refine wpAny_bind (wpAny_bind (wpAny_seqItemAt g rfl (wpAny_pure ?_)))
  rw [show its.toArray[k]?=some u from (List.getElem?_toArray).trans e]
  exact fin fun f s' e hq=>⟨.none,e,wpAny_pure hq⟩
 | neg z h0 ln e=>
  refine wpAny_bind (wpAny_listSubscript_int (fitsIndex_neg h0 (fit63 z).2) ?_)
  have hidx:=seqIndex_neg h0 (neg_len ln)
  rw [hidx] at hj
  cases hj
  cases i with
  | ofNat k=>exact absurd h0 (Int.not_lt.mpr (Int.natCast_nonneg k))
  | negSucc k=>
   show wpAny _ _ ((Builtin.List.listItems (.ref l) >>= fun xs=>pure ((seqIndex? (Int.negSucc k) xs.size).bind fun i=>xs[i]?.map (i,·))) >>= _) _ _ s
   refine wpAny_bind (wpAny_bind ?_)
   show wpAny _ _ (seqItems? (.ref l) >>= _) _ _ s
   refine wpAny_bind (wpAny_seqItems g rfl (wpAny_pure (wpAny_pure ?_)))
   rw [show seqIndex? (Int.negSucc k) its.toArray.size=some (Int.negSucc k + its.length).toNat from hidx,Option.bind_some]
   rw [show its.toArray[(Int.negSucc k + its.length).toNat]?=some u from (List.getElem?_toArray).trans e]
   exact fin fun f s' e hq=>⟨.none,e,wpAny_pure hq⟩
theorem call_append {v:Value} {Q:Value → Shared → Prop} (g:s.heap.get? l=some (listO its n)) (hz:its.length ≤ sizeLine) (h:∀ h',LUp s.heap l (its ++ [v]) h' → Q .none { s with heap:=h' }) :
  wpAny (model prog w) A (call (.builtin "list.append") [.ref l,v]) Q E s:=by
 refine wpAny_call_entry slot_list_append ⟨_,g,rfl⟩ entry_list_append ?_ (args_list_append _ _)
 show wpAny _ _ (updateSeq l (·.push v) >>= fun zz=>ret .none) _ _ s
 exact wpAny_bind (wpAny_updateSeq g rfl (hz:=hz) (wpAny_pure ⟨.none,rfl,h _ (lup g (fun x=>x.push v) (List.push_toArray ..))⟩))
end
theorem nextR_some {o:Option Sg} {fl:Fl} {σ':Sg} {G:Fl → Prop} (h:nextR o=some (fl,σ')) (k:o=some σ' → G .next):G fl:=by
 cases o with
 | none=>cases h
 | some σ=>cases h; exact k rfl
theorem Reps.set {C:Cx} {X:Addr → Prop} {h:Heap} {d:PV} {v:Value} (hd:Rep C X h d v):∀ {xs:List PV} {its:List Value},Reps C X h xs its → ∀ j,Reps C X h (xs.set j d) (its.set j v)
 | [],_,r,_=>by cases r; rfl
 | x :: xs,_,⟨p,q⟩,0=>⟨hd,q⟩
 | x :: xs,_,⟨p,q⟩,j + 1=>⟨p,Reps.set hd (xs:=xs) q j⟩
inductive SetAt {α:Type} (xs:List α) (i:Int) (d:α):List α → Prop
 | mk {j:Nat} {u:α} (q:AtI xs i u) (hj:seqIndex? i xs.length=some j):SetAt xs i d (xs.set j d)
theorem setI_at {α:Type} {xs l:List α} {i:Int} {d:α} (h:setI xs i d=some l):SetAt xs i d l:=onif h fun z h=>by
 have z:i.natAbs ≤ 16777216:=Decidable.byContradiction fun q=>Bool.false_ne_true (z.symm.trans (by rw [decide_eq_false q]; rfl))
 by_cases h0:0 ≤ i
 ·rw [decide_eq_true h0,decide_eq_false (Int.not_lt.mpr h0)] at h
  refine oif (o:=some (xs.set i.toNat d)) (c:=decide (i < xs.length)) (by rw [← h]; cases decide (i < xs.length) <;> rfl) fun c h=>?_
  cases h
  have e:=List.getElem?_eq_getElem (show i.toNat < xs.length from (Int.toNat_lt h0).mpr (dec c))
  exact .mk (.pos z h0 e) (idx_pos h0 e)
 ·have h1:=Int.not_le.mp h0
  rw [decide_eq_false h0] at h
  refine oif h fun c h=>band c fun zz c=>?_
  cases h
  have e:=List.getElem?_eq_getElem (show (i + xs.length).toNat < xs.length from (Int.toNat_lt (dec c)).mpr (by omega))
  exact .mk (.neg z h1 (dec c) e) (seqIndex_neg h1 (neg_len (dec c)))
section
variable {C:Cx} {K:Ks} {X B:Addr → Prop} {env:Env} {s:Shared} {σ:Sg} {x:Nm} {sl:Slot} {v:Value}
structure OwnL (C:Cx) (K:Ks) (X B:Addr → Prop) (env:Env) (s:Shared) (σ:Sg) (x:Nm) (xs:List PV) (a:Addr):Prop where
 n:NameAt env s.heap (mkS x) (.ref a)
 q:LV X s.heap listO (Reps C X s.heap xs) (.ref a)
 n':∀ {h':Heap} {its':List Value},LUp s.heap a its' h' → NameAt env h' (mkS x) (.ref a)
 put:∀ {h':Heap} {its':List Value} {xs':List PV},LUp s.heap a its' h' → Reps C X s.heap xs' its' → SOut C K env X B s .next (putN x (.own xs') σ) .next { s with heap:=h' }
theorem own_list {xs:List PV} (e:EnvF C K X B env s.heap σ) (hx:lookN x σ=some (.own xs)):∃ a,OwnL C K X B env s σ x xs a:=by
 obtain ⟨v,o⟩:=e.own1 hx
 have hr:LV X s.heap listO (Reps C X s.heap xs) v:=o.r
 cases hr with | @mk a _ _ xa g r=>
 refine ⟨a,o.n,⟨xa,g,r⟩,fun u=>o.n.keepF fun b ob f g=>u.2 b ob g fun e=>o.nf a rfl (e ▸ f),fun u r'=>?_⟩
 obtain ⟨⟨n',g'⟩,k⟩:=u
 exact ⟨⟨fun zz=>id,fun zz zz zz=>id,k.mono fun b e=>e ▸ o.w a rfl,rfl,rfl⟩,o.put _ (.own _) (k.mono fun b e=>e ▸ rfl) (fun b w=>by cases w; exact ⟨_,g'⟩) ⟨xa,g',Reps.keep (.of (k.mono fun b e=>e ▸ xa)) _ r'⟩ fun b w=>w,.next⟩
theorem New.again (e:EnvF C K X B env s.heap σ) (hx:lookN x σ=some sl) (n:NameAt env s.heap (mkS x) v):New C X X B env s.heap σ x sl v:=by
 obtain ⟨V,q⟩:=e.slots
 cases n.uniq (q.at_ x sl hx)
 exact ⟨fun zz=>id,fun zz zz zz=>id,e.newB,e.bnd,q.ok x sl hx,fun a w=>⟨q.fra x sl hx a w,q.noB x sl hx a w⟩,fun V' q' y sl' ne hy a w w'=>q'.apart y x sl' sl ne hy hx a w ((NameAt.uniq (q'.at_ x sl hx) n).symm ▸ w')⟩
theorem look_put (x:Nm) (sl:Slot) (σ:Sg):lookN x (putN x sl σ)=some sl:=by rw [lookN_put,if_pos rfl]
theorem put_put {sl':Slot}:∀ y s,lookN y (putN x sl' σ)=some s → lookN y (putN x sl' (putN x sl σ))=some s:=fun y s h=>by
 rw [lookN_put] at h ⊢
 by_cases hy:y=x
 ·rw [if_pos hy] at h ⊢; exact h
 ·rw [if_neg hy] at h ⊢
  rw [lookN_put,if_neg hy]; exact h
end
theorem or_ff {a b:Bool} {G:Prop} (h:(a || b)=false) (k:a=false → b=false → G):G:=k (Bool.or_eq_false_iff.mp h).1 (Bool.or_eq_false_iff.mp h).2
theorem aug_ok {prog:Program} {w:World} {A:Around} {C:Cx} {s:Shared} {X:Addr → Prop} {op:Operator} {a b d:PV} {x y:Value} (h:augP op a b=some d) (qa:Rep C X s.heap a x) (qb:Rep C X s.heap b y) :
  Tr (model prog w) A (inplaceOp op x y) s (ER C X s (.v d)):=obind h fun i hi h=>obind h fun j hj h=>omap h fun r hr=>by
 cases int_read (d:=.v a) hi qa
 cases int_read (d:=.v b) hj qb
 have done:∀ r,ER C X s (.v (.int r)) (.int r s.toks) { s with toks:=s.toks + 1 }:=fun r=>⟨Ext.tok _ _ _,.mk _⟩
 cases op with
 | Add=>exact osome hr fun Q E q=>PySem.P.iadd_int (q _ _ (done _))
 | BitAnd=>exact osome hr fun Q E q=>PyProof.Rows.iand_int (q _ _ (done _))
 | BitOr=>exact osome hr fun Q E q=>PyProof.Rows.ior_int (q _ _ (done _))
 | BitXor=>exact osome hr fun Q E q=>PyProof.Rows.ixor_int (q _ _ (done _))
 | LShift=>exact oif hr fun c hr=>band c fun c c3=>band c fun c1 c2=>osome hr fun Q E q=>PyProof.Rows.ilshift_int_small (dec c1) (dec c2) (dec c3) (q _ _ (done _))
 | RShift=>exact oif hr fun c hr=>osome hr fun Q E q=>PyProof.Rows.irshift_int (dec c) (q _ _ (done _))
 | _=>exact no hr
section
variable {T:Th} {G:Gl} {x:Nm} {xp p:Pos} {e:V.E}
theorem ssAugName {op:Operator} (hv:ESound T G e):SSound T G (.augN x xp op e p):=fun σ fl σ' h=>nextR_some (G:=fun fl=>SClaim T G (.augN x xp op e p) σ fl σ') h fun h=>onif h fun hc h=>or_ff hc fun h1 h2=>obind h fun sl hx h=>obind h fun b hb h A X B env s c Q E k=>by
 have hst:stOk G.sc x=true:=by
  cases q:stOk G.sc x with
  | true=>rfl
  | false=>rw [q] at h1; cases h1
 refine wpAny_AugAssign_Name ?_
 cases sl with
 | fz a=>
  obtain ⟨v,n,r⟩:=c.e.slot hx
  exact load_at c.e.fn n (omap (G:=fun σ'=>(∀ f s',SOut T.C G.sc env X B s .next σ' f s' → Q f s') → _) h (fun d hd k=>hv σ _ (valO_some hb) A X env s c.c _ E fun v s₁ q=>aug_ok hd (Rep.keep (.nox q.x.keep) a r) q.r _ E fun u s₂ q2=>by
   have x2:=q.x.trans q2.x
   have e2:=c.e.keep x2.keep
   exact store_at e2 hst (.fz e2 q2.r) _ E fun zz s₃ q3=>k _ _ ((q3.out e2).pre (.nox x2))) k)
 | own xs=>
  refine oif h fun ho h=>obind h fun ys hy h=>omap (G:=fun σ'=>(∀ f s',SOut T.C G.sc env X B s .next σ' f s' → Q f s') → _) h (fun l hl k=>?_) k
  cases dec ho
  obtain ⟨a,o⟩:=own_list c.e hx
  refine load_at c.e.fn o.n (hv σ _ (valO_some hb) A X env s c.c _ E fun v s₁ q=>?_)
  have e1:=c.e.keep q.x.keep
  obtain ⟨a',o1⟩:=own_list e1 hx
  cases (o.n.keep q.x.keep).uniq o1.n
  cases list_read (d:=.v b) hy q.r with | mk _ gb rb=>
  cases o1.q with | mk xa g r=>
  cases (catN_some hl).1
  refine iadd_list g gb (r.length ▸ rb.length ▸ (catN_some hl).2) fun h' u=>?_
  have so:=o1.put u (Reps.append rb r)
  cases so with | mk t2 e2 _=>
  exact store_at e2 hst (.again e2 (look_put _ _ _) (o1.n' u)) _ E fun zz s₃ q3=>k _ _ ((((q3.out e2).pre t2).pre (.nox q.x)).sub put_put)
 | _=>exact no h
end
theorem s_append:mkS n_append=("append" : PySem.Str):=by decide +kernel
theorem own_at {x:Nm} {σ:Sg} {xs:List PV} (h:ownAt x σ=some xs):lookN x σ=some (.own xs):=obind h fun sl hx h=>by
 cases sl with
 | own ys=>exact Option.some.inj h ▸ hx
 | _=>exact no h
theorem swaps_sub {G:Gl} {e:E} {σ:Sg} {d:PV} (h:valO (ev G e σ)=some d) (o i:Expr) (p:Pos) (l:Nat) (env:Env):swapsWith e.b (some (.Subscript o i p)) l env=pure false:=by
 cases e <;> first | rfl | exact no h
theorem getItem_own {prog:Program} {w:World} {A:Around} {E:Value → Shared → Prop} {s:Shared} {a:Addr} {its:List Value} {n:Nat} {i:Int} {t:Tok} {v:Value} {Q:Value → Shared → Prop} (hg:s.heap.get? a=some (listO its n)) (q:AtI its i v) (h:Q v s):wpAny (model prog w) A (getItem (.ref a) (.int i t)) Q E s:=
 let ⟨_,_,_,_,z⟩:=item_list (prog:=prog) (w:=w) (A:=A) (E:=E) (t:=t) hg q h
 z
section
variable {T:Th} {G:Gl} {x:Nm} {xp sp ap cp p:Pos} {e i:V.E} {A:Around} {X B:Addr → Prop} {env:Env} {s:Shared} {σ σ':Sg}
theorem set_item {C:Cx} {K:Ks} {M:Program} {w:World} {iv d:PV} {ov u v:Value} (h:setAt x iv d σ=some σ') (c:EnvF C K X B env s.heap σ) (n:NameAt env s.heap (mkS x) ov) (qi:Rep C X s.heap iv u) (qd:Rep C X s.heap d v) :
  Tr (model M w) A (setItem ov u v) s (fun zz s'=>SOut C K env X B s .next σ' .next s'):=obind h fun xs hx h=>obind h fun j hj h Q E k=>by
 obtain ⟨a,o⟩:=own_list c (own_at hx)
 cases n.uniq o.n
 cases int_read (d:=.v iv) hj qi
 cases hl:setI xs j d with
 | none=>rw [hl] at h; cases h
 | some l=>
  rw [hl] at h
  cases h
  cases setI_at hl with | mk q hj'=>
  cases o.q with | mk xa g r=>
  obtain ⟨w,q',_⟩:=q.rep r
  exact setItem_list g q' (r.length ▸ hj') fun h' u=>k _ _ (o.put u (Reps.set qd r _))
theorem ssItem (hv:ESound T G e) (hi:ESound T G i):SSound T G (.item x xp i sp e p):=fun σ fl σ' h=>nextR_some (G:=fun fl=>SClaim T G (.item x xp i sp e p) σ fl σ') h fun h=>onif h fun hd h=>obind h fun d he h=>obind h fun iv hiv h A X B env s c Q E k=>by
 have hx:∃ xs,lookN x σ=some (.own xs):=obind h fun xs hx zz=>⟨xs,own_at hx⟩
 obtain ⟨xs,hx⟩:=hx
 refine wpAny_Assign_Subscript (hv σ _ (valO_some he) A X env s c.c _ E fun v s₁ q=>?_) (swaps_sub he _ _ _ _ _)
 have c1:=c.ext q.x
 obtain ⟨a,o⟩:=own_list c1.e hx
 refine wpAny_Name (load_at c1.e.fn o.n ?_) (not_debug hd)
 refine hi σ _ (valO_some hiv) A X env s₁ c1.c _ E fun u s₂ q2=>?_
 exact set_item h (c1.ext q2.x).e (o.n.keep q2.x.keep) q2.r (Rep.keep (.nox q2.x.keep) d q.r) _ E fun zz s₃ q3=>k _ _ (q3.pre (.nox (q.x.trans q2.x)))
theorem aug_store {i:V.E} {d:PV} (h:valO (ev G i σ)=some d) (ov iv new:Value):augStore i.b ov iv new=(do holding [new,ov,iv] (setItem ov iv new); release [new,ov,iv] []; pure .next):=by
 cases i <;> first | rfl | exact no h
theorem ssAugItem {op:Operator} (hv:ESound T G e) (hi:ESound T G i):SSound T G (.augI x xp i sp op e p):=fun σ fl σ' h=>nextR_some (G:=fun fl=>SClaim T G (.augI x xp i sp op e p) σ fl σ') h fun h=>onif h fun hd h=>obind h fun iv hiv h=>obind h fun b hb h=>obind h fun old ho h=>obind h fun d hd2 h=>obind ho fun xs hx ho=>obind ho fun j hj ho=>fun A X B env s c Q E k=>by
 have hx:=own_at hx
 obtain ⟨a,o⟩:=own_list c.e hx
 refine wpAny_AugAssign_SubscriptAny (wpAny_Name (load_at c.e.fn o.n ?_) (not_debug hd)) (aug_store hiv)
 refine hi σ _ (valO_some hiv) A X env s c.c _ E fun u s₁ q1=>?_
 have c1:=c.ext q1.x
 obtain ⟨a',o1⟩:=own_list c1.e hx
 cases (o.n.keep q1.x.keep).uniq o1.n
 cases asI_pv hj
 cases int_read (d:=.v (.int j)) hj q1.r with | mk t=>
 cases o1.q with | mk xa g r=>
 obtain ⟨w,qw,rw⟩:=(atI_at ho).rep r
 refine getItem_own g qw ?_
 refine hv σ _ (valO_some hb) A X env s₁ c1.c _ E fun bv s₂ q2=>aug_ok hd2 (Rep.keep (.nox q2.x.keep) old rw) q2.r _ E fun r s₃ q3=>?_
 have x3:=q2.x.trans q3.x
 exact set_item h (c1.ext x3).e (o1.n.keep x3.keep) (show IntV j _ from .mk t) q3.r _ E fun zz s₄ q4=>k _ _ (q4.pre (.nox (q1.x.trans x3)))
theorem ssApp (he:ESound T G e):SSound T G (.app x xp ap e cp p):=fun σ fl σ' h=>nextR_some (G:=fun fl=>SClaim T G (.app x xp ap e cp p) σ fl σ') h fun h=>onif h fun hd h=>oif h fun h1 h=>obind h fun xs hx h=>obind h fun d hv h=>oif h fun hz h=>fun A X B env s c Q E k=>by
 have hx:=own_at hx
 cases h
 obtain ⟨a,o⟩:=own_list c.e hx
 cases hq:o.q with | @mk _ its n xa g r=>
 have hall:allE (evs G [e] σ)=some [.v d]:=by
  show (ev G e σ).bind _=_
  rw [valO_some hv]
  rfl
 have hs:Each (ESound T G) [e]:=.cons he .nil
 refine wpAny_Expr (callM (o:=.name x xp) (es:=[e]) (stars hall) (by show ((ap.endLine == cp.line) && _ && _)=true; rw [h1]; rfl) (wpAny_Name (load_at c.e.fn o.n fun pl=>?_) (not_debug hd))) (by unfold interactive; rw [c.e.fn]; rfl)
 refine getMethod_builtin ⟨_,g,rfl⟩ F.plainAttrs_list F.slot_list_append F.type_list_append (fun a' ha'=>by cases ha'; exact ⟨_,g,rfl⟩) (callW hs hall c.c (fun zz zz=>keepable_builtin _) fun vs s' q=>?_)
 cases q.r with | mk qu q'=>
 cases q'
 have e1:=c.e.keep q.x.keep
 obtain ⟨a',o1⟩:=own_list e1 hx
 cases (o.n.keep q.x.keep).uniq o1.n
 have rd:Reps T.C X s'.heap [d] [_]:=⟨qu,rfl⟩
 exact call_append (q.x.keep _ _ g id) (r.length ▸ Nat.le_of_succ_le (smallN_le hz)) fun h' u=>k _ _ ((o1.put u (Reps.append rd (Reps.keep (.nox q.x.keep) xs r))).pre (.nox q.x))
end
section
variable {C:Cx} {K:Ks} {env:Env} {X X' B B' F:Addr → Prop} {s s':Shared} {fl:Fl} {σ:Sg} {f:Flow} {h:Heap}
theorem EnvF.lessB (e:EnvF C K X B' env h σ) (hB:∀ a,B a → B' a):EnvF C K X B env h σ:=e.move (Keep.refl _ _) (fun zz zz zz=>id) (fun zz zz zz z zz=>z) (fun a b=>e.bX a (hB a b)) (fun a o zz=>hB a) e.newB e.bnd
theorem SOut.less (q:SOut C K env X B' s fl σ f s') (hB:∀ a,B a → B' a):SOut C K env X B s fl σ f s':=by
 cases q with | mk t e o=>
 refine ⟨t.less hB,e.lessB hB,?_⟩
 cases o with
 | next=>exact .next
 | brk=>exact .brk
 | ret r=>exact .ret (Rep.keep ⟨Keep.refl _ _,fun a o g n b=>n (hB a b)⟩ _ r)
theorem Step.wr (x:Ext F s s') (hF:∀ a,F a → X a ∧ ¬ B a):Step X B X s s':=⟨fun zz=>id,fun zz zz zz=>id,x.mono hF⟩
theorem Step.grow (x:Ext NoX s s') (new:∀ a,F a → s.heap.get? a=none):Step X B (Or2 X F) s s':=⟨fun zz=>.inl,fun a o g n z=>z.elim n fun f=>(by rw [new a f] at g; cases g),x.any⟩
end
section
variable {prog:Program} {w:World}
theorem forLoopZ {A:Around} {R:Result → Shared → Prop} {s:Shared} {target:Expr} {it:Value} {body orelse:List Stmt} {env:Env} (I:Nat → Shared → Prop)
  (turn:∀ n s,I n s → ∀ E,wpAny (model prog w) A (pyNext it) (fun r s₁=>match r with
   | none=>wpAny (model prog w) A (execs orelse env) (fun f s₃=>R (.ok f) s₃) E s₁
   | some v=>wpAny (model prog w) A (letOwnedTupleGo target it v) (fun zz s₁'=>wpAny (model prog w) A (assign target env v) (fun zz s₂=>wpAny (model prog w) A (execs body env) (fun f s₃=>match f with
     | .next | .cont=>∃ m,m < n ∧ I m s₃
     | .brk=>R (.ok .next) s₃
     | .ret v=>R (.ok (.ret v)) s₃) E s₂) E s₁') E s₁) E s)
  (n:Nat) (h:I n s):codeAny (model prog w) A (.forLoop target it body orelse env) R s:=by
 refine codeAny_loop' rfl I (fun n s hI=>?_) n h
 show wpAny _ _ ((forTurn target it body orelse env).onRaise (fun x=>do noteFrame x env; theTreesLotGoes x)) _ _ s
 refine wpAny_noted ?_
 simp only [forTurn]
 refine wpAny_bind (wpAny_standAt (wpAny_bind (wpAny_onRaise (wpAny_mono (turn n s hI _) (fun r s₁ h₁=>?_) fun zz zz h'=>wpAny_standAt h'))))
 cases r with
 | none=>exact wpAny_pure (.inr ⟨rfl,codeAny_block h₁⟩)
 | some v=>
  refine wpAny_bind (wpAny_mono h₁ (fun zz s₁' h₁=>?_) fun zz zz h'=>h')
  refine wpAny_bind (wpAny_mono h₁ (fun zz s₂ h₂=>wpAny_bind (wpAny_mono h₂ (fun f s₃ h₃=>?_) fun zz zz h'=>h')) fun zz zz h'=>h')
  cases f with
  | next=>exact wpAny_pure (.inl ⟨rfl,h₃⟩)
  | cont=>exact wpAny_pure (.inl ⟨rfl,h₃⟩)
  | brk=>exact wpAny_pure h₃
  | ret v=>exact wpAny_pure h₃
end
inductive FInv (T:Th) (G:Gl) (X B F:Addr → Prop) (env:Env) (s₀:Shared) (St:(Addr → Prop) → List PV → Heap → Prop) (r:Rs) (go:List PV → Sg → Rs) (n:Nat) (s:Shared):Prop
 | mk {X':Addr → Prop} {σ:Sg} {l:List PV} (hn:l.length=n) (t:Step X B X' s₀ s) (hF:∀ a,F a → X' a) (e:EnvF T.C G.sc X' (Or2 B F) env s.heap σ) (st:St X' l s.heap) (h:go l σ=r):FInv T G X B F env s₀ St r go n s
theorem ssFor {T:Th} {G:Gl} {t:Tg} {it:It} {a b:List S} {p:Pos} (hG:∀ A,T.P A → Bud A) (hi:tOk t it=true → ISound T G it t) (ha:SsSound T G a) (hb:SsSound T G b):SSound T G (.for t it a b p):=fun σ fl σ' h=>oif h fun htok h=>obind h fun xs hxs h A X B env s c Q E k=>by
 refine wpAny_For (hi htok σ xs hxs A X env s c.c _ E fun xv s₁ q=>q _ _ fun itv s₂ m=>?_) (fun x=>set_ok hxs env x)
 cases m with | @mk F St x2 IK new st2=>
 have nF:∀ {a o},s.heap.get? a=some o → ¬ F a:=fun g f=>by rw [new _ f] at g; cases g
 have nX:∀ {a},X a → ¬ F a:=fun x f=>(c.e.bnd _ x).elim fun o g=>nF g f
 have nB:∀ {a},F a → ¬ B a:=fun f b=>nX (c.e.bX _ b) f
 refine forLoopZ (FInv T G X B F env s St (some (fl,σ')) (forLoop G.sc t (exs G a) (exs G b))) (fun n s₁ hI E'=>?_) xs.length (.mk rfl (.grow x2 new) (fun zz=>.inr) (c.e.grow x2.keep new (IK.live _ _ _ st2)) st2 h)
 cases hI with | @mk X' σ1 l hn t1 hF e1 st1 h=>
 cases l with
 | nil=>
  refine IK.done X' s₁ st1 hF _ _ fun r s₃ q=>?_
  cases q.e
  have t3:Step X B (fun a=>X' a ∧ ¬ F a) s s₃:=⟨fun a x=>⟨t1.g a x,nX x⟩,fun a o g n z=>t1.n a o g n z.1,fun a o g n=>q.x.keep a o (t1.x.keep a o g n) (nF g),q.x.os.trans t1.x.os,q.x.gens.trans t1.x.gens⟩
  have e3:EnvF T.C G.sc (fun a=>X' a ∧ ¬ F a) B env s₃.heap σ1:=e1.move (q.x.keep.mono fun zz f=>.inr f) (fun a o g n z=>n z.1) (fun a o g x n=>⟨x,fun f=>n (.inr f)⟩) (fun a b=>⟨e1.bX a (.inl b),fun f=>nB f b⟩) (fun a o g b=>.inl b) (fun a z=>e1.newB a z.1) fun a z=>(e1.bnd a z.1).elim fun o g=>⟨o,q.x.keep a o g z.2⟩
  exact hb σ1 fl σ' h A _ B env s₃ ⟨c.pa,e3⟩ _ _ fun f s₄ q4=>k f s₄ (q4.pre t3)
 | cons d l=>
  unfold forLoop at h
  cases hbt:bindT G.sc t d σ1 with
  | none=>rw [hbt] at h; cases h
  | some σ2=>
   rw [hbt] at h
   dsimp only at h
   refine IK.next X' d l s₁ st1 hF _ _ fun v s₃ q=>q _ _ fun zz s₄ q=>?_
   have e4:=e1.wr q.x.keep (fun zz f=>.inr f) (IK.live _ _ _ q.st)
   refine bind_ok (hG A c.pa).handled hbt e4 q.i _ _ fun zz s₅ q5=>?_
   have st5:St X' l s₅.heap:=IK.keep _ _ _ _ _ q.st (.of (q5.x.keep.mono fun a f=>e4.fra f.fra)) fun a o fa g=>q5.x.keep a o g fun f=>e4.fB a f.fra (.inr fa)
   have t5:Step X B X' s s₅:=t1.trans (.trans (.wr q.x fun a f=>⟨hF a f,nB f⟩) (.wr q5.x fun a f=>⟨e4.fra f.fra,fun b=>e4.fB a f.fra (.inl b)⟩))
   cases hx:exs G a σ2 with
   | none=>rw [hx] at h; cases h
   | some r=>
    obtain ⟨fl2,σ3⟩:=r
    rw [hx] at h
    refine ha σ2 fl2 σ3 hx A X' (Or2 B F) env s₅ ⟨c.pa,q5.e⟩ _ _ fun f s₆ q6=>?_
    have q':=(q6.less (B:=B) fun zz b=>.inl b).pre t5
    cases q6 with | mk t6 e6 hf=>
    cases hf with
    | next=>exact ⟨l.length,hn ▸ Nat.lt_succ_self _,.mk rfl (t5.trans (t6.less fun zz b=>.inl b)) (fun a f=>t6.g a (hF a f)) e6 (IK.keep _ _ _ _ _ st5 ⟨t6.x.keep.mono fun zz y=>y.1,t6.n⟩ fun a o fa g=>t6.x.keep a o g fun y=>y.2 (.inr fa)) h⟩
    | brk=>cases h; cases q' with | mk t e _=>exact k _ _ ⟨t,e,.next⟩
    | ret r=>cases h; exact k _ _ q'
inductive NewS (hot:Bool) (d:PV):Slot → Prop
 | fz:NewS hot d (.fz d)
 | own {xs:List PV} (h:hot=true) (e:d=.list xs):NewS hot d (.own xs)
theorem new_slot (hot:Bool) (d:PV):NewS hot d (newSlot hot d):=by
 cases d with
 | list xs=>cases hot with
  | true=>exact .own rfl rfl
  | false=>exact .fz
 | _=>exact .fz
section
variable {M:Model} {A:Around} {s s':Shared} {C:Cx} {K:Ks} {X B N:Addr → Prop} {env:Env} {σ:Sg} {x:Nm} {v:Value} {sl:Slot} {h:Heap}
theorem New.fresh (e:EnvF C K X (Or2 B N) env h σ) (ok:SlotOk C X h sl v) (own:∀ a,Owns h sl v a → N a ∧ ¬ B a):New C X X B env h σ x sl v:=
 ⟨fun zz=>id,fun zz zz zz=>id,e.newB,e.bnd,ok,fun a w=>⟨fun f=>e.fB a f (.inr (own a w).1),(own a w).2⟩,fun V q y sl' ne hy a w w'=>e.slots.elim fun V0 q0=>q0.noB y sl' hy a ((q.at_ y sl' hy).uniq (q0.at_ y sl' hy) ▸ w) (.inr (own a w').1)⟩
theorem store_new {hot:Bool} {d:PV} (e:EnvF C K X B env s.heap σ) (hst:stOk K x=true) (q:ER C X s (.v d) v s') (f:hot=true → ∀ xs,d=.list xs → FreshL C X s xs s' v):Tr M A (storeName env (mkS x) v) s' (fun zz s₂=>SOut C K env X B s .next (putN x (newSlot hot d) σ) .next s₂):=by
 have ns:=new_slot hot d
 generalize newSlot hot d=sl at ns ⊢
 cases ns with
 | fz=>
  have e1:=e.keep q.x.keep
  exact fun Q E k=>store_at e1 hst (.fz e1 q.r) _ E fun zz s₂ q2=>k _ _ ((q2.out e1).pre (.nox q.x))
 | own h he=>
  cases f h _ he with | @mk a its n nw g r=>
  have nB:∀ b,b=a → ¬ B b:=fun b e' hb=>(e.bnd b (e.bX b hb)).elim fun o g=>by rw [e',nw] at g; cases g
  have e1:=e.grow (N:=fun b=>b=a) q.x.keep (fun b e=>e ▸ nw) fun b e=>⟨_,e ▸ g⟩
  have e2:=e1.lessB (B:=B) fun zz=>.inl
  exact fun Q E k=>store_at e2 hst (.fresh (sl:=.own _) e1 (show LV _ _ _ _ _ from .mk (.inr rfl) g r) fun b w=>by cases w; exact ⟨rfl,nB _ rfl⟩) _ E fun zz s₂ q2=>k _ _ ((q2.out e2).pre (.grow q.x fun b (e:b=a)=>e ▸ nw))
theorem store_comp {hot:Bool} {l:List PV} {D L:Addr} {E:Value → Shared → Prop} {Q:Value → Shared → Prop} {xp:Pos} (e:EnvF C K X B env s.heap σ) (hst:stOk K x=true) (c:CompDone C X s l D L s') (k:∀ s₂,SOut C K env X B s .next (putN x (newSlot hot (.list l)) σ) .next s₂ → Q .none s₂) :
  compPost M A E (some (assign (.Name (mkS x) xp) env)) Q (.ref D) L (.ok .next) s':=by
 have nw:∀ {a},(a=D ∨ a=L) → s.heap.get? a=none:=fun h=>h.elim (fun e=>e ▸ c.newD) fun e=>e ▸ c.newL
 have old:∀ {a},X a → ¬ (a=D ∨ a=L):=fun x h=>(e.bnd _ x).elim fun o g=>by rw [nw h] at g; cases g
 cases hacc:c.acc with | @mk _ its n _ g r=>
 obtain ⟨m,hm⟩:=c.ns
 have gL:∃ o,s'.heap.get? L=some o:=hm.elim fun o q=>q.elim fun zz q=>q.elim fun zz q=>⟨o,q.1⟩
 have rep:∀ Y:Addr → Prop,(∀ a,Y a → Or2 (Or2 X fun a=>a=D) (fun a=>a=L) a) → Reps C Y s'.heap l its:=fun Y hy=>Reps.keep ⟨Keep.refl _ _,fun a o g n y=>n (hy a y)⟩ l r
 have fin:∀ (N:Addr → Prop) (sl:Slot),(∀ a,N a → a=D ∨ a=L) → N L → EnvF C K (Or2 X N) (Or2 B N) env s'.heap σ → New C (Or2 X N) (Or2 X N) (Or2 B fun a=>a=L) env s'.heap σ x sl (.ref D) → (∀ s₂,SOut C K env X B s .next (putN x sl σ) .next s₂ → Q .none s₂) →
   wpAny M A (assign (.Name (mkS x) xp) env (.ref D)) (fun zz s₂=>∃ m,s₂.heap.Ns L m ∧ ∀ h',Heap.SameBut L s₂.heap h' → Q .none { s₂ with heap:=h' }) E s':=fun N sl hN nl e1 nv k=>by
  have e2:=e1.lessB (B:=Or2 B fun a=>a=L) fun a b=>b.elim .inl fun (e:a=L)=>.inr (e ▸ nl)
  refine wpAny_assign_Name (store_at e2 hst nv _ E fun zz s₂ q=>⟨m,Ns.keepX hm q.x.keep fun f=>e2.fB L f.fra (.inr rfl),fun h' hs=>k _ (.mk (X':=fun a=>Or2 X N a ∧ a ≠ L) ?_ ?_ .next)⟩)
  ·exact ⟨fun a x=>⟨.inl x,fun e=>old x (.inr e)⟩,fun a o g n z=>z.1.elim n fun z=>(by rw [nw (hN a z)] at g; cases g),fun a o g n=>(hs.2 a fun e=>by rw [e,c.newL] at g; cases g).trans (q.x.keep a o (c.ext.keep a o g id) fun f=>n (e.fraW a f)),q.x.os.trans c.ext.os,q.x.gens.trans c.ext.gens⟩
  ·exact q.e.move (fun a o g n=>(hs.2 a fun e=>n (.inr e)).trans g) (fun a o g n z=>n z.1) (fun a o g x n=>⟨x,fun e=>n (.inr e)⟩) (fun a b=>⟨q.e.bX a (.inl b),fun e'=>old (e.bX a b) (.inr e')⟩) (fun a o g b=>.inl b) (fun a z=>q.e.newB a z.1) fun a z=>(q.e.bnd a z.1).elim fun o g=>⟨o,(hs.2 a z.2).trans g⟩
 have ns:=new_slot hot (.list l)
 generalize newSlot hot (.list l)=sl at ns k ⊢
 cases ns with
 | fz=>
  have e1:=e.grow (N:=fun a=>a=L) c.ext.keep (fun a h=>nw (.inr h)) fun a h=>h ▸ gL
  exact fin _ _ (fun a h=>.inr h) rfl e1 (.fz (d:=.list l) (e1.lessB fun a b=>b) (show LV _ _ _ _ _ from .mk (fun h=>h.elim (fun x=>old x (.inl rfl)) c.ne) g (rep _ fun a h=>h.imp .inl id))) k
 | own h he=>
  cases he
  have e1:=e.grow (N:=fun a=>a=D ∨ a=L) c.ext.keep (fun a=>nw) fun a h=>h.elim (fun h=>⟨_,h ▸ g⟩) fun h=>h ▸ gL
  refine fin (fun a=>a=D ∨ a=L) (.own l) (fun a=>id) (.inr rfl) e1 ⟨fun zz=>id,fun zz zz zz=>id,e1.newB,e1.bnd,(show LV _ _ _ _ _ from .mk (.inr (.inl rfl)) g (rep _ fun a h=>h.elim (fun x=>.inl (.inl x)) fun h=>h.imp .inr id)),fun a w=>?_,fun V q y sl' ne hy a w w'=>?_⟩ k
  ·cases w
   exact ⟨fun f=>e1.fB _ f (.inr (.inl rfl)),fun b=>b.elim (fun b=>old (e.bX _ b) (.inl rfl)) c.ne⟩
  ·cases w'
   exact e1.slots.elim fun V0 q0=>q0.noB y sl' hy _ ((q.at_ y sl' hy).uniq (q0.at_ y sl' hy) ▸ w) (.inr (.inl rfl))
end
inductive IsComp:E → Prop
 | mk {elt:E} {g:Gn} {gs:List Gn} {sc:Scope} {p:Pos}:IsComp (.comp elt g gs sc p)
theorem is_comp (e:E):IsComp e ∨ isLC e=false:=by
 cases e <;> first | exact .inl .mk | exact .inr rfl
section
variable {T:Th} {G:Gl} {x:Nm} {xp p:Pos} {e:V.E} {σ:Sg} {env:Env}
theorem swaps_plain {d:EV} (h:isLC e=false) (hd:ev G e σ=some d) (t:Option Expr) (l:Nat):swapsWith e.b t l env=pure false:=by
 cases e <;> first | rfl | exact no hd | cases h
theorem ssSet (hG:∀ A,T.P A → Bud A) (he:ESound T G e) (hf:freshE e=true → FSound T G e) (hc:∀ elt g gs sc p',e=.comp elt g gs sc p' → CompP T G elt g gs sc):SSound T G (.set x xp e p):=fun σ fl σ' h=>nextR_some (G:=fun fl=>SClaim T G (.set x xp e p) σ fl σ') h fun h=>obind h fun d hd h=>oif h fun hst h A X B env s c Q E k=>by
 cases d with
 | h xs=>exact no h
 | v d=>
  cases h
  have road:swapsWith e.b (some (.Name (mkS x) xp)) p.line env=pure false → wpAny (model T.prog T.w) A (exec (.Assign [.Name (mkS x) xp] e.b p) env) Q E s:=fun sw=>by
   cases hfr:freshE e with
   | true=>rw [hfr] at k; exact wpAny_Assign_Name (hf hfr σ _ hd A X env s c.c _ E fun v s₁ q=>store_new c.e hst q.e (fun zz ys h=>q.f ys (congrArg EV.v h)) _ E fun zz s₂ q2=>k _ _ q2) sw
   | false=>rw [hfr] at k; exact wpAny_Assign_Name (he σ _ hd A X env s c.c _ E fun v s₁ q=>store_new c.e hst q (fun h=>by cases h) _ E fun zz s₂ q2=>k _ _ q2) sw
  refine (is_comp e).elim (fun ic=>?_) fun h=>road (swaps_plain h hd _ _)
  cases ic with | @mk elt g gs sc p'=>
  have hp:=hc elt g gs sc p' rfl
  have hsw:∃ b,swapsWith (V.E.comp elt g gs sc p').b (some (.Name (mkS x) xp)) p.line env=pure b:=⟨_,rfl⟩
  obtain ⟨b,hsw⟩:=hsw
  cases b with
  | false=>exact road hsw
  | true=>
   show wpAny _ _ (exec (.Assign [.Name (mkS x) xp] (V.E.comp elt g gs sc p').b p) env) Q E s
   rw [exec_Assign_Name_used _ _ _ _ hsw]
   refine wpAny_bind (wpAny_standAt (wpAny_bind ?_))
   refine comp_ev (P:=fun d'=>d'=.v d → _) hd (fun xs l v e=>?_) rfl
   cases e
   cases g
   show wpAny _ A (do let _ ← comprehension (.ListComp elt.b (_ :: gbs gs) sc p') sc env (firstIterPos (_ :: gbs gs) p') (newList []) false (eval _ env) (some (assign (.Name (mkS x) xp) env))) _ _ s
   exact wpAny_bind (comp_core hp (hG A c.pa).handled v.hn v.hs v.hxs v.hl v.hz c.c fun D L s' cd=>store_comp (hot:=freshE _ && memN x G.hot) c.e hst cd fun s₂ q=>wpAny_pure (wpAny_pure (k _ _ q)))
theorem putAll_ok {M:Model} {A:Around} {C:Cx} {K:Ks} {X B:Addr → Prop} {d:PV} {v:Value}:∀ (ts:List NP) {σ σ':Sg} {s:Shared},putAll K d ts σ=some σ' → EnvF C K X B env s.heap σ → Rep C X s.heap d v →
  Tr M A (assignAll v ((assignEach (ts.map NP.b) env).map (·.2))) s (fun zz s'=>StR C K X B env s σ' s')
 | [],σ,σ',s,h,e,r=>fun Q E k=>by cases h; exact wpAny_pure (k _ _ ⟨Ext.refl _ _,e⟩)
 | [t],σ,σ',s,h,e,r=>oif h fun c h Q E k=>by
  cases h
  show wpAny _ _ (assign (.Name (mkS t.1) t.2) env v) _ _ s
  exact wpAny_assign_Name (store_at e c (.fz e r) _ E k)
 | t :: u :: ts,σ,σ',s,h,e,r=>oif h fun c h Q E k=>by
  show wpAny _ _ (do holding [v] (assign (.Name (mkS t.1) t.2) env v); assignAll v ((assignEach ((u :: ts).map NP.b) env).map (·.2))) _ _ s
  exact wpAny_bind (wpAny_holding (wpAny_assign_Name (store_at e c (.fz e r) _ E fun zz s₁ q=>putAll_ok (u :: ts) h q.e (Rep.keep (.of (q.x.keep.mono fun a f=>e.fra f.fra)) d r) _ E fun zz s₂ q2=>k _ _ (q.trans q2))))
theorem ssMany {x y:NP} {xs:List NP} (he:ESound T G e):SSound T G (.many x y xs e p):=fun σ fl σ' h=>nextR_some (G:=fun fl=>SClaim T G (.many x y xs e p) σ fl σ') h fun h=>obind h fun d hd h A X B env s c Q E k=>
 wpAny_Assign_stores (targets:=(x :: y :: xs).map NP.b) (he σ _ (valO_some hd) A X env s c.c _ E fun v s₁ q=>have e1:=c.e.keep q.x.keep
  putAll_ok (x :: y :: xs) h e1 q.r _ E fun zz s₂ q2=>k _ _ ((q2.out e1).pre (.nox q.x))) rfl rfl
end
theorem swapped_two {a b:PySem.Str} {ap bp:Pos} {k k':Nat} {p p':Pos} {o x:Expr} {m:PySem.Str} {op:Pos} {env:Env} (hne:a ≠ b) :
  swappedStores [.Tuple [.Name a ap,.Name b bp] k p] (.Tuple [.Attribute o m op,x] k' p') env=pure none ∨ swappedStores [.Tuple [.Name a ap,.Name b bp] k p] (.Tuple [.Attribute o m op,x] k' p') env=pure (some [a,b]):=by
 have hab:(b == a)=false:=beq_eq_false_iff_ne.mpr (Ne.symm hne)
 have he:[a,b].eraseDups=[a,b]:=by simp [List.eraseDups_cons,hab]
 unfold swappedStores
 dsimp only
 cases hb:(env.blockKind != ScopeKind.function) with
 | true=>exact .inl (by simp)
 | false=>
  cases hx:([Expr.Attribute o m op,x].any fun | .Starred ..=>true | _=>false) with
  | true=>exact .inl (by simp)
  | false=>
   simp only [List.length_cons,List.length_nil,Nat.zero_add,Nat.reduceAdd,bne_self_eq_false,beq_self_eq_true,Bool.true_or,Bool.not_true,Bool.or_self,Bool.or_false,Bool.false_eq_true,if_false]
   have h1:(List.all [Expr.Attribute o m op,x] (foldedForSure 8))=false:=rfl
   have h2:(List.all [Expr.Attribute o m op,x] (constantsAlone 8))=false:=rfl
   simp only [h1,h2,Bool.false_eq_true,if_false]
   generalize hL:List.filterMap _ _=L
   have cs:L=[a,b] ∨ (L.length != 2)=true:=by
    subst hL
    cases h3:(env.kindOf a == some NameKind.local && ap.line == (Option.map (fun x:Expr=>x.pos.line) [Expr.Name a ap,Expr.Name b bp].head?).getD 0) with
    | true=>cases h4:(env.kindOf b == some NameKind.local && bp.line == (Option.map (fun x:Expr=>x.pos.line) [Expr.Name a ap,Expr.Name b bp].head?).getD 0) with
     | true=>exact .inl (by rw [List.filterMap_cons_some (b:=a) (by dsimp only; rw [if_pos h3]),List.filterMap_cons_some (b:=b) (by dsimp only; rw [if_pos h4])]; rfl)
     | false=>exact .inr (by rw [List.filterMap_cons_some (b:=a) (by dsimp only; rw [if_pos h3]),List.filterMap_cons_none (by dsimp only; rw [if_neg (by rw [h4]; decide)])]; rfl)
    | false=>cases h4:(env.kindOf b == some NameKind.local && bp.line == (Option.map (fun x:Expr=>x.pos.line) [Expr.Name a ap,Expr.Name b bp].head?).getD 0) with
     | true=>exact .inr (by rw [List.filterMap_cons_none (by dsimp only; rw [if_neg (by rw [h3]; decide)]),List.filterMap_cons_some (b:=b) (by dsimp only; rw [if_pos h4])]; rfl)
     | false=>exact .inr (by rw [List.filterMap_cons_none (by dsimp only; rw [if_neg (by rw [h3]; decide)]),List.filterMap_cons_none (by dsimp only; rw [if_neg (by rw [h4]; decide)])]; rfl)
   refine cs.elim (fun e=>.inr ?_) fun e=>.inl (by rw [e]; rfl)
   subst e
   simp only [he]
   rfl
theorem two_some {α:Type} {l:List α} {q:α × α} (h:two l=some q):l=[q.1,q.2]:=by
 cases l with
 | nil=>exact no h
 | cons a r=>cases r with
  | nil=>exact no h
  | cons b r=>cases r with
   | nil=>exact Option.some.inj h ▸ rfl
   | cons c r=>exact no h
theorem putN_comm {σ:Sg} {x y:Nm} {s1 s2:Slot} (ne:x ≠ y):∀ z sl,lookN z (putN y s2 (putN x s1 σ))=some sl → lookN z (putN x s1 (putN y s2 σ))=some sl:=fun z sl h=>by
 rw [lookN_put,lookN_put] at h ⊢
 by_cases h1:z=x
 ·rw [if_neg fun e=>ne (h1.symm.trans e),if_pos h1] at h
  rw [if_pos h1]; exact h
 ·by_cases h2:z=y
  ·rw [if_pos h2] at h
   rw [if_neg h1,if_pos h2]; exact h
  ·rw [if_neg h2,if_neg h1] at h
   rw [if_neg h1,if_neg h2]; exact h
inductive IsTup:E → Prop
 | mk {es:List E} {n:Nat} {p:Pos}:IsTup (.tup es n p)
theorem is_tup {e:E} (h:isTupE e=true):IsTup e:=by
 cases e <;> first | exact .mk | cases h
inductive TwoT (ts:List NP):E → Prop
 | mk {a b:NP} {es:List E} {o x:Expr} {m:PySem.Str} {op p':Pos} {n:Nat} (ht:ts=[a,b]) (he:bs es=[.Attribute o m op,x]) (ne:a.1 ≠ b.1):TwoT ts (.tup es n p')
theorem attr_b {e:E} (h:isAttrE e=true):∃ o m op,e.b=.Attribute o m op:=by
 cases e <;> first | exact ⟨_,_,_,rfl⟩ | cases h
theorem two_t {ts:List NP} {e:E} (h:tupOk ts e=true):isTupE e=false ∨ TwoT ts e:=bor' h (fun h=>.inl (bnot h)) fun h=>by
 cases h0:isTupE e with
 | false=>exact .inl rfl
 | true=>
  cases is_tup h0 with | @mk es n p'=>
  have h:(match two ts,two es with | some (a,b),some (u,_)=>isAttrE u && !(nmEq a.1 b.1) | _,_=>false)=true:=h
  cases h1:two ts with
  | none=>rw [h1] at h; cases h
  | some q=>cases h2:two es with
   | none=>rw [h1,h2] at h; cases h
   | some r=>
    rw [h1,h2] at h
    refine band (show (isAttrE r.1 && !(nmEq q.1.1 q.2.1))=true from h) fun h3 h4=>.inr ?_
    obtain ⟨o,m,op,h5⟩:=attr_b h3
    exact .mk (two_some h1) (by rw [two_some h2]; show [r.1.b,r.2.b]=_; rw [h5]) fun e=>by rw [e,nmEq_self] at h4; cases h4
theorem sw_tup {G:Gl} {e:E} {σ:Sg} {d:EV} (hd:ev G e σ=some d) (l:List Expr) (k n:Nat) (p:Pos) (env:Env):swapsWith e.b (some (.Tuple l k p)) n env=pure false:=by
 cases e <;> first | rfl | exact no hd
theorem no_swap {G:Gl} {e:E} {σ:Sg} {d:EV} (hd:ev G e σ=some d) (ht:isTupE e=false) (l:List Expr) (k:Nat) (p:Pos) (env:Env):swappedStores [.Tuple l k p] e.b env=pure none:=by
 cases e <;> first | rfl | exact no hd | cases ht
section
variable {T:Th} {G:Gl} {p tp:Pos} {e:V.E} {σ:Sg} {env:Env} {ts:List NP} {k:Nat}
theorem swapped_run {M:Program} {w:World} {A:Around} {C:Cx} {K:Ks} {X B:Addr → Prop} {s:Shared} {σ':Sg} {a b:NP} {d:PV} {v:Value} {Q:Unit → Shared → Prop} {E:Value → Shared → Prop} (hh:A.handled=none) (c:EnvF C K X B env s.heap σ) (ne:a.1 ≠ b.1) (hd:∃ l,d=.tuple l) (q:Rep C X s.heap d v) (hb:bindT K (.tup [a,b] k tp) d σ=some σ')
  (h:∀ s',StR C K X B env s σ' s' → Q () s'):wpAny (model M w) A (unpackItems v [mkS a.1,mkS b.1].length none) (fun items s₂=>wpAny (model M w) A (assignInOrder ([mkS a.1,mkS b.1].reverse.map fun n=>bindName env n) items.reverse) Q E s₂) E s:=by
 obtain ⟨l,rfl⟩:=hd
 cases q with | @mk t its n xt g r=>
 refine oif hb fun hn hb=>band hn fun h1 hn=>band hn fun h2 zz=>?_
 cases l with
 | nil=>exact no hb
 | cons d1 l=>cases l with
  | nil=>exact no hb
  | cons d2 l=>cases l with
   | cons d3 l=>exact no hb
   | nil=>
    cases hb
    cases r with | @mk v1 _ r1 r=>cases r with | @mk v2 _ r2 r=>
    cases r
    refine wpAny_unpackItems_tuple (items:=#[v1,v2]) hh ⟨_,g,rfl,n,rfl⟩ fun h' hs=>?_
    have x1:=ext_fresh hs
    have e1:=c.keep x1.keep
    show wpAny _ _ (do holding [v1] (bindName env (mkS b.1) v2); assignInOrder [bindName env (mkS a.1)] [v1]) _ _ _
    refine wpAny_bind (wpAny_holding (wpAny_bindName (store_at e1 h2 (.fz e1 (Rep.keep (.nox x1.keep) d2 r2)) _ E fun zz s₂ q2=>?_)))
    show wpAny _ _ (do holding [] (bindName env (mkS a.1) v1); assignInOrder [] []) _ _ _
    refine wpAny_bind (wpAny_holding (wpAny_bindName (store_at q2.e h1 (.fz q2.e (Rep.keep (.of (q2.x.keep.mono fun a f=>e1.fra f.fra)) d1 (Rep.keep (.nox x1.keep) d1 r1))) _ E fun zz s₃ q3=>wpAny_pure (h _ ⟨x1.any.trans (q2.x.trans q3.x),q3.e.sub (putN_comm ne)⟩))))
theorem ssTup (hG:∀ A,T.P A → Bud A) (he:ESound T G e):SSound T G (.tup ts k tp e p):=fun σ fl σ' h=>nextR_some (G:=fun fl=>SClaim T G (.tup ts k tp e p) σ fl σ') h fun h=>oif h fun ht h=>band ht fun ht zz=>obind h fun d hd hb A X B env s c Q E q=>by
 have hd:=valO_some hd
 have hh:=(hG A c.pa).handled
 have sw:swapsWithSole [.Tuple (ts.map NP.b) k tp] e.b p.line env=pure false:=sw_tup hd (ts.map NP.b) k p.line tp env
 have plain:swappedStores [.Tuple (ts.map NP.b) k tp] e.b env=pure none → wpAny (model T.prog T.w) A (exec (.Assign [.Tuple (ts.map NP.b) k tp] e.b p) env) Q E s:=fun hw=>
  PyProof.Rows.Assign_Tuple (he σ _ hd A X env s c.c _ E fun v s₁ r=>have e1:=c.e.keep r.x.keep
   bind_ok (t:=.tup ts k tp) hh hb e1 (.fz r.r) _ E fun zz s₂ q2=>q _ _ ((q2.out e1).pre (.nox r.x))) sw hw
 refine (two_t ht).elim (fun ht=>plain (no_swap hd ht _ _ _ _)) fun tt=>?_
 cases tt with | @mk a b es o x m op p' n hts hb' ne=>
 subst hts
 have two:=swapped_two (ap:=a.2) (bp:=b.2) (k:=k) (k':=n) (p:=tp) (p':=p') (o:=o) (x:=x) (m:=m) (op:=op) (env:=env) fun e=>ne (mkS_inj e)
 rw [← hb'] at two
 refine two.elim plain fun hw=>PyProof.Rows.Assign_Tuple_swapped (he σ _ hd A X env s c.c _ E fun v s₁ r=>?_) sw hw
 have hl:∃ l,d=.tuple l:=obind hd fun l zz h=>oif h fun zz h=>⟨l,by cases h; rfl⟩
 have e1:=c.e.keep r.x.keep
 exact swapped_run hh e1 ne hl r.r hb fun s' q2=>q _ _ ((q2.out e1).pre (.nox r.x))
end
section
variable {C:Cx} {X:Addr → Prop} {h:Heap}
theorem RepF.put {a:Nm} {d:PV} {v:Value} (hd:Rep C X h d v):∀ {fs:List (Nm × PV)} {m:PySem.Str → Option Value},RepF C X h fs m → RepF C X h (putN a d fs) (fun y=>if y=mkS a then some v else m y)
 | [],m,r=>⟨hd,fun zz=>rfl,fun y=>by rw [r]⟩
 | (x,d') :: fs,m,r=>by
  cases r with | @mk u m' r1 r2 r3=>
  show RepF C X h (bif nmEq x a then (x,d) :: fs else (x,d') :: putN a d fs) _
  by_cases e:x=a
  ·subst e
   rw [nmEq_self]
   refine ⟨hd,r2,fun y=>?_⟩
   by_cases hy:y=mkS x
   ·rw [if_pos hy,if_pos hy]
   ·rw [if_neg hy,if_neg hy,r3,if_neg hy]
  ·rw [nmEq_ne e]
   refine ⟨r1,RepF.put hd r2,fun y=>?_⟩
   by_cases hy:y=mkS a
   ·rw [if_pos hy,if_pos hy,if_neg fun e'=>e (mkS_inj (e'.symm.trans hy))]
   ·rw [if_neg hy,if_neg hy,r3]
theorem RepF.within:∀ {fs:List (Nm × PV)} {m:PySem.Str → Option Value},RepF C X h fs m → Within m (fs.map fun p=>mkS p.1)
 | [],m,r=>fun y hy=>absurd (r y) hy
 | (x,d') :: fs,m,r=>fun y hy=>by
  cases r with | mk r1 r2 r3=>
  rw [r3] at hy
  by_cases e:y=mkS x
  ·exact e ▸ .head _
  ·rw [if_neg e] at hy
   exact .tail _ (RepF.within r2 y hy)
end
section
variable {T:Th} {G:Gl} {o a:Nm} {op ap p:Pos} {e:V.E}
theorem ssAttr (hG:GlOk T G) (he:ESound T G e):SSound T G (.attr o op a ap e p):=fun σ fl σ' h=>nextR_some (G:=fun fl=>SClaim T G (.attr o op a ap e p) σ fl σ') h fun h=>onif h fun hd h=>oif h fun hf h=>band hf fun hf hlc=>obind h fun fs hs h=>oif h fun hn h=>obind hs fun sl hx hs A X B env s c Q E k=>by
 cases sl with
 | self fs'=>
  cases Option.some.inj hs
  cases hv:valO (ev G e σ) with
  | none=>rw [hv] at h; cases h
  | some d=>
   rw [hv] at h
   cases h
   refine plainObj_wpAny_Assign_Attribute (he σ _ (valO_some hv) A X env s c.c _ E fun v s₁ q=>?_) (swaps_plain (bnot hlc) (valO_some hv) _ _)
   have e1:=c.e.keep q.x.keep
   obtain ⟨ov,ow⟩:=e1.own1 hx
   refine wpAny_Name (load_at e1.fn ow.n ?_) (not_debug hd)
   have me:=ow.r.1
   have iv:=ow.r.2
   cases iv with | @mk b dd ob mA xb xd ne g oc od on nd rf=>
   have cat:At T A X s₁:=⟨c.pa,e1.base,e1.newB,e1.bnd⟩
   refine hG.sto a hf A X s₁ b mA _ v cat (e1.newB b xb) ⟨_,g,oc,on,.inr ⟨dd,od,ne,nd⟩⟩ rf.within (by rw [List.length_map]; exact Nat.le_of_lt (dec hn)) _ E fun zz s' sr=>k _ _ (.pre (.nox q.x) ?_)
   obtain ⟨o1,g1,oc1,od1,_,hdd⟩:=sr.self _ g
   have dd1:=hdd dd od
   have kO:Keep (Owns s₁.heap (.self fs) (.ref b)) s₁.heap s'.heap:=fun c o' g' n=>sr.keep c o' (fun e=>n (e ▸ .me)) (fun o₀ dx e1 e2 e3=>n (e3 ▸ .dict e1 e2)) g'
   have nd2:s'.heap.Ns1 dd (fun y=>if y=mkS a then some v else mA y):=by
    obtain ⟨o2,g2,_,_,hdict⟩:=sr.inst
    cases g1.symm.trans g2
    refine hdict.elim (fun h=>?_) fun ⟨d2,h1,_,h3⟩=>?_
    ·rw [dd1] at h; cases h.1
    ·cases dd1.symm.trans h1; exact h3
   have wX:∀ c,Owns s₁.heap (.self fs) (.ref b) c → X c ∧ ¬ B c:=ow.w
   have fit:=Fit.of (kO.mono fun c w=>(wX c w).1)
   refine ⟨⟨fun zz=>id,fun zz zz zz=>id,kO.mono wX,sr.os,sr.gens⟩,ow.put s'.heap (.self (putN a d fs)) kO (fun c w=>?_) ⟨me,xb,xd,ne,g1,oc1.trans oc,dd1,fun c=>od1 ▸ on c,nd2,RepF.put (Rep.keep fit d q.r) (RepF.keep fit fs rf)⟩ fun c w=>?_,.next⟩
   ·cases w with
    | me=>exact ⟨_,g1⟩
    | dict g2 e=>
     cases g.symm.trans g2
     cases od.symm.trans e
     obtain ⟨o3,_,_,g3,_⟩:=nd2
     exact ⟨o3,g3⟩
   ·cases w with
    | me=>exact .me
    | dict g2 e=>
     cases g1.symm.trans g2
     cases dd1.symm.trans e
     exact .dict g od
 | _=>exact no hs
end
section
variable {prog:Program} {w:World} {A:Around} {E:Value → Shared → Prop} {s:Shared}
noncomputable abbrev B8 (b:List Nat):Array UInt8:=(b.map fun c=>c.toUInt8).toArray
open KBw in
theorem call_iter_bytes {b:Array UInt8} {t:Tok} {Q:Value → Shared → Prop} (hQ:Q (.ref s.heap.objs.size) { s with heap:=s.heap.push { cls:=.type "bytes_iterator",data:=.fields #[.bytes b t,.int 0 0] } }) :
  wpAny (model prog w) A (call (.builtin "iter") [.bytes b t]) Q E s:=by
 refine Calls.call_function_entry (by decide +kernel) (by decide +kernel) kdk_entry_iter (kdk_args_iter _) ?_
 unfold Builtin.«iter»
 refine wpAny_bind (m:=someArgs "iter" 1 2 _) (wpAny_of_eq (a:=[Value.bytes b t]) (by first | rfl | kernel_rfl!) ?_)
 show wpAny _ _ (pyIter (.bytes b t) >>= _) _ _ _
 refine wpAny_bind (pyIter_bytes ?_)
 exact wpAny_pure ⟨_,rfl,hQ⟩
open KBw in
theorem special_next {b:Array UInt8} {t:Tok} {it:Addr} {i:Nat} {c:UInt8} {Q:Option Value → Shared → Prop} (hit:IsBytesIter s.heap it b t i) (hx:b[i]?=some c)
  (hQ:∀ h',IsBytesIter h' it b t (i + 1) → Heap.SameBut it s.heap h' → Q (some (.int (c.toNat:Int) s.toks)) { s with heap:=h',toks:=s.toks + 1 }):wpAny (model prog w) A (callSpecial? (.ref it) (Str.ofString "__next__")) Q E s:=by
 obtain ⟨o,ho,hc,hd⟩:=id hit
 refine wpAny_callSpecial?_slot (name:=PySem.Str.ofString "__next__") (iter_typeIs hit) slot_next
  (wpAny_call_entry slot_next (iter_typeIs hit) entry_next ?_ (args_next _))
 show wpAny _ _ (field (.ref it) 0 >>= _) _ _ s
 refine wpAny_bind (wpAny_field ho hd (x:=.bytes b t) rfl ?_)
 show wpAny _ _ (if (Value.bytes b t == Value.none)=true then _ else _) _ _ s
 rw [if_neg (show ¬ ((Value.bytes b t == Value.none)=true) from Bool.false_ne_true)]
 show wpAny _ _ (field (.ref it) 1 >>= _) _ _ s
 refine wpAny_bind (wpAny_field ho hd (x:=.int i 0) rfl ?_)
 refine wpAny_bind (wpAny_of_eq (a:=b) rfl ?_)
 simp only [Int.toNat_natCast,hx]
 refine wpAny_bind (wpAny_setField ho hd (by simp) (wpAny_bind (wpAny_mkInt (wpAny_pure ⟨_,rfl,hQ _ ?_ (Heap.SameBut.update ..)⟩))))
 exact ⟨_,Heap.get?_update_self _ ho (Obj.isFreed_of_fields (Obj.data_mapFields hd _)),(Obj.cls_mapFields ..).trans hc,by
  rw [Obj.data_mapFields hd]; simp [rawInt]⟩
open KBw in
theorem call_next_bytes {b:Array UInt8} {t:Tok} {it:Addr} {i:Nat} {c:UInt8} {Q:Value → Shared → Prop} (hit:IsBytesIter s.heap it b t i) (hx:b[i]?=some c)
  (hQ:∀ h',IsBytesIter h' it b t (i + 1) → Heap.SameBut it s.heap h' → Q (.int (c.toNat:Int) s.toks) { s with heap:=h',toks:=s.toks + 1 }):wpAny (model prog w) A (call (.builtin "next") [.ref it]) Q E s:=by
 refine Calls.call_function_entry (by decide +kernel) (by decide +kernel) kdk_entry_next (kdk_args_next _) ?_
 unfold Builtin.«next»
 refine wpAny_bind (m:=someArgs "next" 1 2 _) (wpAny_of_eq (a:=[Value.ref it]) (by first | rfl | kernel_rfl!) ?_)
 dsimp only
 refine wpAny_bind (wpAny_specialOf (name:=Str.ofString "__next__") (iter_typeIs hit) slot_next.lookup ?_)
 refine wpAny_ite_split (fun hab=>absurd hab (by decide)) (fun zz=>?_)
 exact wpAny_bind (special_next hit hx fun h' hit' hs=>wpAny_pure ⟨_,rfl,hQ h' hit' hs⟩)
theorem bi_no_len:typeLookup (.type "bytes_iterator") "__len__" = pure none:=by rw [typeLookup_type,builtinLookup_eq_fast]; kernel_rfl
theorem bi_hint:typeLookup (.type "bytes_iterator") "__length_hint__" = pure (some (.builtin "bytes_iterator.__length_hint__")):=by rw [typeLookup_type,builtinLookup_eq_fast]; kernel_rfl
open KBw in
theorem hint_bytes {b:Array UInt8} {t:Tok} {it:Addr} {i:Nat} {Q:Bool → Shared → Prop} (hit:IsBytesIter s.heap it b t i) (h:Q false s):wpAny (model prog w) A (Builtin.List.listLengthHint (.ref it)) Q E s:=by
 unfold Builtin.List.listLengthHint
 refine wpAny_bind (wpAny_specialOf (iter_typeIs hit) bi_no_len ?_)
 show wpAny _ A (specialOf (Value.ref it) (Str.ofString "__length_hint__") >>= _) _ _ _
 refine wpAny_bind (wpAny_specialOf (iter_typeIs hit) bi_hint ?_)
 generalize hid:("bytes_iterator.__length_hint__" : String)=id0
 wp_delta
 rw [show splitId id0=some ("bytes_iterator", "__length_hint__") from by subst hid; decide +kernel]
 subst hid
 refine wpAny_bind (wpAny_isInstance (T := "bytes_iterator") (b:=true) (iter_typeIs hit) (by rw [isSubtype_type]; kernel_rfl) ?_)
 refine wpAny_ite_split (fun hab=>absurd hab (by decide)) (fun zz=>?_)
 refine wpAny_ite_split (fun zz=>?_) (fun hab=>absurd (by decide +kernel) hab)
 refine wpAny_ite_split (fun hab=>absurd hab (by decide +kernel)) (fun zz=>?_)
 exact wpAny_pure h
open KBw in
theorem next_end2 {it:Addr} {b:Array UInt8} {t:Tok} {i:Nat} {Q:Option Value → Shared → Prop} (hh:A.handled=none) (hit:IsBytesIter s.heap it b t i) (hx:b[i]?=none)
  (hQ:∀ h',Heap.ExtBut it s.heap h' → (∃ o,h'.get? it=some o) → Q none { s with heap:=h' }):wpAny (model prog w) A (pyNext (.ref it)) Q E s:=by
 obtain ⟨o,ho,hc,hd⟩:=id hit
 unfold pyNext
 refine wpAny_bind (wpAny_attempt (wpAny_callSpecial?_slot (name:=PySem.Str.ofString "__next__") (iter_typeIs hit) slot_next
  (wpAny_call_entry slot_next (iter_typeIs hit) entry_next ?_ (args_next _))))
 show wpAny _ _ (field (.ref it) 0 >>= _) _ _ s
 refine wpAny_bind (wpAny_field ho hd (x:=.bytes b t) rfl ?_)
 show wpAny _ _ (if (Value.bytes b t == Value.none)=true then _ else _) _ _ s
 rw [if_neg (show ¬ ((Value.bytes b t == Value.none)=true) from Bool.false_ne_true)]
 show wpAny _ _ (field (.ref it) 1 >>= _) _ _ s
 refine wpAny_bind (wpAny_field ho hd (x:=.int i 0) rfl ?_)
 refine wpAny_bind (wpAny_of_eq (a:=b) rfl ?_)
 simp only [Int.toNat_natCast,hx]
 refine wpAny_bind (wpAny_rule (wpAny_bind (wpAny_setField ho hd (by simp) ?_)))
 have hex:=Heap.get?_update_self (Obj.mapFields (·.setIfInBounds 0 Value.none)) ho (Obj.isFreed_of_fields (Obj.data_mapFields hd _))
 show wpAny _ _ (newExc (.type "StopIteration") [] >>= _) _ _ _
 refine wpAny_bind ?_
 simp only [newExc,newTuple]
 refine wpAny_bind (wpAny_newObj_type ?_ (by size_fits))
 refine wpAny_bind (m:=firstArgMember _ _) (wpAny_of_eq (a:=Value.none) (by first | rfl | (simp only [firstArgMember]; rfl)) ?_)
 refine wpAny_newObj_type ?_ (by size_fits)
 simp only [raiseNew]
 refine wpAny_bind (wpAny_handled ?_)
 rw [show A.in1.handled=none from hh]
 refine wpAny_bind (wpAny_pure (wpAny_throw ?_))
 refine wpAny_bind (wpAny_isInstance (T := "StopIteration") (b:=true) ⟨_,Heap.get?_push_size _ rfl,rfl⟩ isSubtype_stop ?_)
 exact wpAny_pure (hQ _ (((Heap.SameBut.update ..).extBut.push _).push _) ⟨_,Heap.get?_push_of_some _ (Heap.get?_push_of_some _ hex)⟩)
open KBw in
theorem extend_done {R:Result → Shared → Prop} {it:Addr} {b:Array UInt8} {t:Tok} {i:Nat} (hh:A.handled=none) (hit:IsBytesIter s.heap it b t i) (hx:b[i]?=none) (S:Addr) (res:Value) (c₀:Nat)
  (hS:s.heap.get? S=some { cls:=.type "list",data:=.seq #[] c₀ })
  (hR:∀ h' tk c',(∀ a o,a ≠ S → a ≠ it → s.heap.get? a=some o → h'.get? a=some o) → h'.get? S=some (listO [] c') → (∃ o,h'.get? it=some o) → R (.ok (.ret res)) { s with heap:=h',toks:=tk }) :
  wpAny (model prog w) A.in1 (Builtin.List.listExtendWith (.ref S) (.ref it) res)
   (fun fin s'=>match fin with | .done f=>R (.ok f) s' | .again c'=>c'.quiet=true ∧ codeAny (model prog w) A c' R s') (fun e s'=>R (.error e) s') s:=by
 have hSr:S ≠ it:=fun e=>by
  obtain ⟨o,ho,hc,hd⟩:=hit
  rw [e,ho] at hS
  cases hS
  exact absurd (Value.type.inj hc) (by decide)
 unfold Builtin.List.listExtendWith
 refine wpAny_bind (wpAny_typeOf (T := "bytes_iterator") (iter_typeIs hit) ?_)
 have h1:Builtin.List.listSameRef (.ref S) (.ref it)=false:=by simp [Builtin.List.listSameRef,hSr]
 have h2:(Value.type "bytes_iterator" == Value.type "list")=false:=by decide
 have h3:(Value.type "bytes_iterator" == Value.type "tuple")=false:=by decide
 simp only [h1,h2,h3,Bool.or_false,Bool.false_eq_true,if_false]
 refine wpAny_bind (pyIter_self hit ?_)
 refine wpAny_bind (wpAny_holding (hint_bytes hit ?_))
 refine wpAny_ite_split (fun hab=>absurd hab (by decide)) (fun zz=>wpAny_pure ⟨plainId_quiet F.plain_extend_loop _,?_⟩)
 refine codeAny_builtin F.entry_extend_loop ?_
 rw [Around.under_plainId F.plain_extend_loop _]
 show wpAny _ A.in1 (pyNext (.ref it) >>= _) _ _ s
 refine wpAny_bind (next_end2 (A:=A.in1) hh hit hx fun h' he' hex=>?_)
 exact wpAny_pure (hR h' s.toks c₀ (fun a o h1 h2 e=>he' a o h2 e) (he' _ _ hSr hS) hex)
open KBw in
theorem call_list_done {Q:Value → Shared → Prop} {it:Addr} {b:Array UInt8} {t:Tok} {i:Nat} (hh:A.handled=none) (hit:IsBytesIter s.heap it b t i) (hx:b[i]?=none)
  (hQ:∀ h' tk c',(∀ a o,a ≠ it → s.heap.get? a=some o → h'.get? a=some o) → h'.get? s.heap.objs.size=some (listO [] c') → (∃ o,h'.get? it=some o) → Q (.ref s.heap.objs.size) { s with heap:=h',toks:=tk }) :
  wpAny (model prog w) A (call (.type "list") [.ref it]) Q E s:=by
 refine callType_codes (Q₁:=fun obj s₁=>obj=.ref s.heap.objs.size ∧ s₁={ s with heap:=s.heap.push { cls:=.type "list",data:=.seq #[] } }) F.called_list (F.typeCall_list_1 _) F.entry_list_init
  (code_list_new _ ⟨rfl,rfl⟩) fun obj s₁ h₁=>?_
 obtain ⟨rfl,rfl⟩:=h₁
 have hS:(s.heap.push { cls:=.type "list",data:=.seq #[] }).get? s.heap.objs.size=some { cls:=.type "list",data:=.seq #[] }:=Heap.get?_push_size _ rfl
 refine ⟨⟨_,hS,rfl⟩,F.args_list_init_2 _ _,?_⟩
 obtain ⟨o,ho,hc,hd⟩:=hit
 have hne:it ≠ s.heap.objs.size:=Nat.ne_of_lt (Heap.lt_size ho)
 show wpAny _ _ (do let old ← Builtin.List.listItems (.ref s.heap.objs.size); Builtin.List.listUpdate (.ref s.heap.objs.size) (fun zz=>#[]); letGo old.toList.reverse; Builtin.List.listExtendWith (.ref s.heap.objs.size) (.ref it) .none) _ _ _
 refine wpAny_bind ?_
 unfold Builtin.List.listItems
 refine wpAny_bind (wpAny_seqItems hS rfl (wpAny_pure ?_))
 show wpAny _ _ (updateSeq s.heap.objs.size (fun zz=>#[]) >>= fun zz=>letGo (#[]:Array Value).toList.reverse >>= fun zz=>Builtin.List.listExtendWith (.ref s.heap.objs.size) (.ref it) .none) _ _ _
 refine wpAny_bind (wpAny_updateSeq hS rfl ?_)
 have hS₂:=Heap.get?_update_self (Obj.mapSeq (fun zz=>(#[]:Array Value))) hS rfl
 have oth:∀ b o,b ≠ s.heap.objs.size → s.heap.get? b=some o → ((s.heap.push { cls:=.type "list",data:=.seq #[] }).update s.heap.objs.size (Obj.mapSeq (fun zz=>(#[]:Array Value)))).get? b=some o:=
  fun b o hb e=>(Heap.get?_update_other _ _ (Ne.symm hb)).trans (Heap.get?_push_of_some _ e)
 refine wpAny_bind (wpAny_letGo ?_)
 refine extend_done (A:=A.in1) hh ⟨o,oth it o hne ho,hc,hd⟩ hx _ .none _ hS₂ fun h' tk c' hk hS' hex=>?_
 exact ⟨rfl,hQ h' tk c' (fun a o h1 e=>hk a o (Nat.ne_of_lt (Heap.lt_size e)) h1 (oth a o (Nat.ne_of_lt (Heap.lt_size e)) e)) hS' hex⟩
end
theorem b8_get {b:List Nat} {k c:Nat} (h:b[k]?=some c) (hb:∀ c ∈ b,c < 256):(B8 b)[k]?=some c.toUInt8 ∧ (c.toUInt8.toNat:Int)=Int.ofNat c:=by
 refine ⟨by rw [List.getElem?_toArray,List.getElem?_map,h]; rfl,congrArg Int.ofNat ?_⟩
 show (UInt8.ofNat c).toNat=c
 rw [UInt8.toNat_ofNat']
 exact Nat.mod_eq_of_lt (hb c (List.mem_of_getElem? h))
theorem b8_none {b:List Nat} {k:Nat} (h:b.drop k=[]):(B8 b)[k]?=none:=by
 rw [List.getElem?_toArray,List.getElem?_map,List.getElem?_eq_none (List.drop_eq_nil_iff.mp h)]; rfl
noncomputable abbrev octL (b:List Nat):List PV:=b.map fun c=>.int (Int.ofNat c)
section
variable {C:Cx} {K:Ks} {X B:Addr → Prop} {env:Env} {s:Shared} {σ:Sg} {x:Nm} {tg:Option Nat} {xs:List PV}
structure OwnI (C:Cx) (K:Ks) (X B:Addr → Prop) (env:Env) (s:Shared) (σ:Sg) (x:Nm) (tg:Option Nat) (xs:List PV) (a:Addr):Prop where
 n:NameAt env s.heap (mkS x) (.ref a)
 q:ItV tg X s.heap xs (.ref a)
 w:X a ∧ ¬ B a
 put:∀ {s':Shared} {r:List PV},Ext (fun b=>b=a) s s' → ItV none X s'.heap r (.ref a) → EnvF C K X B env s'.heap (putN x (.iter tg r) σ)
theorem own_iter (e:EnvF C K X B env s.heap σ) (hx:lookN x σ=some (.iter tg xs)):∃ a,OwnI C K X B env s σ x tg xs a:=by
 obtain ⟨v,o⟩:=e.own1 hx
 have hr:ItV tg X s.heap xs v:=o.r
 cases hr with | @mk a _ _ _ _ ht xa hb g oc od e=>
 refine ⟨a,o.n,⟨ht,xa,hb,g,oc,od,e⟩,o.w a rfl,fun {s' r} x1 q=>?_⟩
 cases q with | mk _ xa' hb' g' oc' od' e'=>
 exact o.put s'.heap (.iter tg r) (x1.keep.mono fun b e=>e ▸ rfl) (fun b w=>by cases w; exact ⟨_,g'⟩) ⟨ht,xa',hb',g',oc',od',e'⟩ fun b w=>w
end
section
variable {T:Th} {G:Gl} {x f it:Nm} {xp fp ip cp p:Pos} {σ:Sg} {A:Around} {X B:Addr → Prop} {env:Env} {s:Shared} {E:Value → Shared → Prop}
theorem call_of (hG:GlOk T G) {vf v:Value} {Q:Value → Shared → Prop} (c:ECtx T G σ A X env s) (hgl:isGl G.sc f=true) (gv:GV T.C f vf) (n:NameAt env s.heap (mkS it) v) (hd:nmEq it n_debug=false) (hk:Keepable (model T.prog T.w) A vf s)
  (h:wpAny (model T.prog T.w) A (PySem.call vf [v]) Q E s):wpAny (model T.prog T.w) A (eval (.Call (.Name (mkS f) fp) [.Name (mkS it) ip] [] cp) env) Q E s:=
 Call_ (gname hG hgl gv c (callWith_gen rfl (evalArgs_all _ rfl (wpAny_items_cons (wpAny_Name (load_at c.e.fn n (wpAny_items_nil ⟨hk,h⟩)) (not_debug hd)) rfl))))
theorem iter_fin {C:Cx} {K:Ks} {M:Model} {tg:Option Nat} {xs r:List PV} {a:Addr} {d:PV} {v:Value} {s₁:Shared} (o:OwnI C K X B env s σ it tg xs a) (hst:stOk K x=true) (x1:Ext (fun b=>b=a) s s₁) (q:ItV none X s₁.heap r (.ref a)) (rd:Rep C X s₁.heap d v) :
  Tr M A (storeName env (mkS x) v) s₁ (fun zz s₂=>SOut C K env X B s .next (putN x (.fz d) (putN it (.iter tg r) σ)) .next s₂):=fun Q E k=>
 have e1:=o.put x1 q
 store_at e1 hst (.fz e1 rd) _ E fun zz s₂ q2=>k _ _ ((q2.out e1).pre (.wr x1 fun b e=>e ▸ o.w))
theorem iter_new {C:Cx} {K:Ks} {M:Model} {D:Addr} {r:List PV} {s₁:Shared} (e:EnvF C K X B env s.heap σ) (hst:stOk K x=true) (x1:Ext NoX s s₁) (nw:s.heap.get? D=none) (ok:ItV none (Or2 X fun b=>b=D) s₁.heap r (.ref D)) :
  Tr M A (storeName env (mkS x) (.ref D)) s₁ (fun zz s₂=>SOut C K env X B s .next (putN x (.iter none r) σ) .next s₂):=fun Q E k=>by
 have gD:∃ o,s₁.heap.get? D=some o:=by cases ok with | mk _ _ _ g=>exact ⟨_,g⟩
 have nB:¬ B D:=fun b=>(e.bnd D (e.bX D b)).elim fun o g=>by rw [nw] at g; cases g
 have e1:=e.grow (N:=fun b=>b=D) x1.keep (fun b e=>e ▸ nw) fun b e=>e ▸ gD
 have e2:=e1.lessB (B:=B) fun zz=>.inl
 exact store_at e2 hst (.fresh (sl:=.iter none r) e1 ok fun b w=>by cases w; exact ⟨rfl,nB⟩) _ E fun zz s₂ q2=>k _ _ ((q2.out e2).pre (.grow x1 fun b (e:b=D)=>e ▸ nw))
theorem ssNext (hG:GlOk T G):SSound T G (.next x xp it ip fp cp p):=fun σ fl σ' h=>oif h fun hc h=>band hc fun hst hgl=>obind h fun q hq h=>onif hq fun hd hq=>obind hq fun sl hx hq A X B env s c Q E k=>by
 cases sl with
 | iter tg xs=>
  cases hq
  cases xs with
  | nil=>exact no h
  | cons d r=>
   cases h
   obtain ⟨a,o⟩:=own_iter c.e hx
   cases o.q with | @mk _ b t j ob ht xa hb g oc od hxs=>
   have hdr:∃ c l,b.drop j=c :: l:=by
    cases q:b.drop j with
    | nil=>rw [q] at hxs; cases hxs
    | cons c l=>exact ⟨c,l,rfl⟩
   obtain ⟨n,l,hdr⟩:=hdr
   rw [hdr] at hxs
   cases hxs
   have hn:b[j]?=some n:=by rw [← List.head?_drop,hdr]; rfl
   obtain ⟨u1,u2⟩:=b8_get hn hb
   refine wpAny_Assign_Name (call_of hG c.c hgl (hG.bval (n_next,_) (.tail _ (.tail _ (.tail _ (.tail _ (.head _)))))) o.n hd (keepable_builtin _) (call_next_bytes ⟨ob,g,oc,od⟩ u1 fun h' hit' hs'=>?_))
   obtain ⟨o',g',oc',od'⟩:=hit'
   have hv:IntV (Int.ofNat n) (.int (n.toUInt8.toNat:Int) s.toks):=by rw [u2]; exact .mk _
   have hl:l=b.drop (j + 1):=by rw [← List.drop_drop,hdr]; rfl
   exact iter_fin (s₁:={ s with heap:=h',toks:=s.toks + 1 }) (d:=.int (Int.ofNat n)) o hst ⟨fun c o2 e ne=>(hs'.2 c ne).trans e,rfl,rfl⟩ (.mk nofun xa hb g' oc' od' (congrArg octL hl)) hv _ E fun zz s₂ q=>k _ _ q
 | _=>exact no hq
theorem ssIcall (hG:GlOk T G):SSound T G (.icall x xp f fp it ip cp p):=fun σ fl σ' h=>oif h fun hc h=>band hc fun hst hgl=>obind h fun q hq h=>onif hq fun hd hq=>obind hq fun sl hx hq A X B env s c Q E k=>by
 cases sl with
 | iter tg xs=>
  cases hq
  cases hi:G.icall f xs with
  | none=>rw [hi] at h; cases h
  | some dr=>
   rw [hi] at h
   cases h
   cases hG.icall f xs dr.1 dr.2 hi with | mk gv io=>
   obtain ⟨a,o⟩:=own_iter c.e hx
   cases o.q with | @mk _ b t j ob ht xa hb g oc od hxs=>
   exact wpAny_Assign_Name (call_of hG c.c hgl gv o.n hd (io.keep A s c.e.base) (io.run A X s a c.c.at ⟨nofun,xa,hb,g,oc,od,hxs⟩ _ E fun v s₁ ir=>iter_fin o hst ir.x ir.sl ir.r _ E fun zz s₂ q=>k _ _ q))
 | _=>exact no hq
theorem ssIter (hG:GlOk T G):SSound T G (.iter x xp it ip fp cp p):=fun σ fl σ' h=>onif h fun hd h=>oif h fun hc h=>band hc fun hst hgl A X B env s c Q E k=>by
 cases hb:(lookN it σ).bind fun s=>(asFz s).bind asBy with
 | none=>rw [hb] at h; cases h
 | some b=>
  rw [hb] at h
  cases h
  refine obind hb fun sl hx hb=>obind hb fun d hf hb=>?_
  cases sl with
  | fz d'=>
   cases hf
   cases d with
   | bytes b'=>
    cases hb
    obtain ⟨v,n,r⟩:=c.e.slot hx
    have r:ByV b v:=r
    cases r with | mk t hb=>
    refine wpAny_Assign_Name (call_of hG c.c hgl (hG.bval (n_iter,_) (.tail _ (.tail _ (.tail _ (.head _))))) n hd (keepable_builtin _) (call_iter_bytes ?_))
    exact iter_new c.e hst (Ext.pushed _ _ _) (none_size (Nat.le_refl _)) (.mk (o:={ cls:=.type "bytes_iterator",data:=.fields #[.bytes (B8 b) t,.int 0 0] }) nofun (.inr rfl) hb (Heap.get?_push_size _ rfl) rfl rfl rfl) _ E fun zz s₂ q=>k _ _ q
   | _=>exact no hb
  | _=>exact no hf
end
theorem lookN_frz (x:Nm):∀ σ:Sg,lookN x (frz σ)=(lookN x σ).map frzS
 | []=>rfl
 | p :: r=>by
  show (bif nmEq p.1 x then some (frzS p.2) else lookN x (frz r))=Option.map frzS (bif nmEq p.1 x then some p.2 else lookN x r)
  cases nmEq p.1 x with
  | true=>rfl
  | false=>exact lookN_frz x r
inductive FzY (B:Addr → Prop) (env:Env) (h:Heap) (σ:Sg) (V:Nm → Value):Addr → Prop
 | b {a:Addr} (b:B a):FzY B env h σ V a
 | fra {a:Addr} (f:Fra env a):FzY B env h σ V a
 | own {x:Nm} {tg:Option Nat} {xs:List PV} {a:Addr} (hx:lookN x σ=some (.iter tg xs)) (w:Owns h (.iter tg xs) (V x) a):FzY B env h σ V a
structure Frozen (C:Cx) (K:Ks) (X B:Addr → Prop) (env:Env) (h:Heap) (σ:Sg) (Y:Addr → Prop):Prop where
 b:∀ a,B a → Y a
 e:EnvOk C K Y env h (frz σ)
section
variable {C:Cx} {K:Ks} {X B:Addr → Prop} {env:Env} {h:Heap} {σ:Sg}
theorem own_frz {s:Slot} {v:Value} {a:Addr} (w:Owns h (frzS s) v a):Owns h s v a:=by
 cases s with
 | own xs=>exact w.elim
 | self fs=>exact w.elim
 | _=>exact w
theorem EnvF.frozen (e:EnvF C K X B env h σ):∃ Y,Frozen C K X B env h σ Y:=by
 obtain ⟨V,q⟩:=e.slots
 have YX:∀ a,FzY B env h σ V a → X a:=fun a y=>by
  cases y with
  | b b=>exact e.bX a b
  | fra f=>exact e.fra f
  | own hx w=>exact ((q.ok _ _ hx).owned a w).1
 have nY:∀ x sl,lookN x σ=some sl → (∀ tg xs,sl ≠ .iter tg xs) → ∀ a,Owns h sl (V x) a → ¬ FzY B env h σ V a:=fun x sl hx ne a w y=>by
  cases y with
  | b b=>exact q.noB x sl hx a w b
  | fra f=>exact q.fra x sl hx a w f
  | @own y _ _ _ hy w'=>
   refine q.apart x y sl _ (fun e=>?_) hx hy a w w'
   rw [e] at hx
   exact ne _ _ (Option.some.inj (hx.symm.trans hy))
 have fit:Fit X (FzY B env h σ V) h h:=⟨Keep.refl _ _,fun a o g n y=>n (YX a y)⟩
 have back:∀ {x sl},lookN x (frz σ)=some sl → ∃ s0,lookN x σ=some s0 ∧ frzS s0=sl:=fun {x sl} hx=>by
  rw [lookN_frz] at hx
  cases h0:lookN x σ with
  | none=>rw [h0] at hx; cases hx
  | some s0=>rw [h0] at hx; exact ⟨s0,rfl,Option.some.inj hx⟩
 refine ⟨_,fun a=>.b,e.fn,e.glo,e.bui,e.base,fun a y=>e.newB a (YX a y),e.ns,.fra (.inl rfl),fun y c hc=>⟨.fra (.inr ⟨y,hc⟩),(e.cellX y c hc).2⟩,e.apart,e.kinds,fun a y=>e.bnd a (YX a y),nofun,fun zz zz=>id,V,fun x sl hx=>?_,fun x sl hx=>?_,fun x y sl sl' ne hx hy a wa wb=>?_,fun x sl hx a w=>?_,fun zz zz zz zz zz=>id⟩
 ·exact (back hx).elim fun s0 h0=>q.at_ x s0 h0.1
 ·obtain ⟨s0,h0,rfl⟩:=back hx
  have r:=q.ok x s0 h0
  have nY:=nY x s0 h0
  cases s0 with
  | fz d=>exact Rep.keep fit d r
  | own xs=>
   have r:LV X h listO (Reps C X h xs) (V x):=r
   show LV _ _ _ _ _
   generalize V x=v at r nY ⊢
   cases r with | mk xa g r=>exact ⟨nY nofun _ rfl,g,Reps.keep fit xs r⟩
  | iter tg xs=>exact SlotOk.mono fit r fun a w=>⟨.own h0 w,fun zz=>id⟩
  | self fs=>
   have r:IV C X h (RepF C X h fs) (V x):=r.2
   show IV _ _ _ _ _
   generalize V x=v at r nY ⊢
   cases r with | mk x' xd ne g oc od on nd rf=>exact ⟨nY nofun _ .me,nY nofun _ (.dict g od),ne,g,oc,od,on,nd,RepF.keep fit fs rf⟩
 ·obtain ⟨s0,h0,rfl⟩:=back hx
  obtain ⟨s1,h1,rfl⟩:=back hy
  exact q.apart x y s0 s1 ne h0 h1 a (own_frz wa) (own_frz wb)
 ·obtain ⟨s0,h0,rfl⟩:=back hx
  exact q.fra x s0 h0 a (own_frz w)
theorem EnvF.gone (e:EnvF C K X B env h σ) {x:Nm} {sl:Slot} {v:Value} (hx:lookN x σ=some sl) (n:NameAt env h (mkS x) v):EnvF C K X (Or2 B (Owns h sl v)) env h (dropN x σ):=by
 obtain ⟨V,q⟩:=e.slots
 cases n.uniq (q.at_ x sl hx)
 have l:=fun {y sl'} (hy:lookN y (dropN x σ)=some sl')=>lookN_filter (P:=fun y=>!(nmEq y x)) σ hy
 have ne:∀ {y sl'},lookN y (dropN x σ)=some sl' → y ≠ x:=fun hy e=>by
  have:=(l hy).1
  rw [e,nmEq_self] at this
  cases this
 exact ⟨e.fn,e.glo,e.bui,e.base,e.newB,e.ns,e.locX,e.cellX,e.apart,e.kinds,e.bnd,fun a b=>b.elim (e.bX a) fun w=>((q.ok x sl hx).owned a w).1,fun a f b=>b.elim (e.fB a f) fun w=>q.fra x sl hx a w f,V,fun y s hy=>q.at_ y s (l hy).2,fun y s hy=>q.ok y s (l hy).2,fun y z s s' yz hy hz=>q.apart y z s s' yz (l hy).2 (l hz).2,fun y s hy=>q.fra y s (l hy).2,fun y s hy a w b=>b.elim (q.noB y s (l hy).2 a w) fun w'=>q.apart y x s sl (ne hy) (l hy).2 hx a w w'⟩
end
section
variable {T:Th} {G:Gl} {e a b:V.E} {p:Pos}
theorem ret_out {σ:Sg} {A:Around} {X B B':Addr → Prop} {env:Env} {s:Shared} {d:PV} (c:SCtx T G σ A X B' env s) (hB:∀ a,B a → B' a) (he:ESound T G e) (h:valO (ev G e (frz σ))=some d):Tr (model T.prog T.w) A (eval e.b env) s (fun v s₁=>SOut T.C G.sc env X B s (.ret d) σ (.ret v) s₁):=fun Q E k=>by
 obtain ⟨Y,f⟩:=c.e.frozen
 exact he _ _ (valO_some h) A Y env s ⟨c.pa,f.e⟩ _ E fun v s₁ q=>k _ _ ⟨.nox q.x,(c.e.keep q.x.keep).lessB hB,.ret (Rep.keep ⟨Keep.refl _ _,fun a o g n b=>n (f.b a (hB a b))⟩ d q.r)⟩
theorem ssRet (he:ESound T G e):SSound T G (.ret e p):=fun σ fl σ' h A X B env s c Q E k=>by
 cases hv:valO (ev G e (frz σ)) with
 | none=>rw [show ex G (.ret e p) σ=(valO (ev G e (frz σ))).map _ from rfl,hv] at h; cases h
 | some d=>
  rw [show ex G (.ret e p) σ=(valO (ev G e (frz σ))).map fun d=>(.ret d,σ) from rfl,hv] at h
  cases h
  exact wpAny_Return_some (ret_out c (fun zz=>id) he hv _ E fun v s₁ q=>k _ _ q)
theorem ssRetL (hG:GlOk T G) (ha:ESound T G a) {it:Nm} {fp ip cp lp mp q:Pos}:SSound T G (.retL it fp ip cp lp mp a b q p):=fun σ fl σ' h=>obind h fun r hq h=>onif hq fun hd hq=>obind hq fun sl hx hq=>oif h fun hc hr=>band hc fun hn hgl A X B env s c Q E k=>by
 cases sl with
 | iter tg xs=>
  cases hq
  cases xs with
  | cons _ _=>cases hn
  | nil=>
   cases hv:valO (ev G a (frz (dropN it σ))) with
   | none=>rw [show retV (ev G a (frz (dropN it σ))) (dropN it σ)=(valO (ev G a (frz (dropN it σ)))).map _ from rfl,hv] at hr; cases hr
   | some d=>
    rw [show retV (ev G a (frz (dropN it σ))) (dropN it σ)=(valO (ev G a (frz (dropN it σ)))).map fun d=>(.ret d,dropN it σ) from rfl,hv] at hr
    cases hr
    obtain ⟨ai,o⟩:=own_iter c.e hx
    cases o.q with | @mk _ bb t j ob ht xa hb g oc od hxs=>
    have hnil:=b8_none (show bb.drop j=[] from List.map_eq_nil_iff.mp hxs.symm)
    have hh:=(hG.bud A c.pa).handled
    refine wpAny_Return_some (wpAny_IfExp (wpAny_isTrue_Compare1 (call_of hG c.c hgl (hG.bval (n_list,_) (.tail _ (.head _))) o.n hd (keepable_type _) (call_list_done hh ⟨ob,g,oc,od⟩ hnil fun h' tk c' hk hD hex=>?_))))
    have nD:¬ X s.heap.objs.size:=c.e.newX
    generalize s.heap.objs.size=D at hD nD ⊢
    have x1:Ext (fun c=>c=ai) s { s with heap:=h',toks:=tk }:=⟨fun c o e ne=>hk c o ne e,rfl,rfl⟩
    have e1:=(c.e.gone hx o.n).wr (W:=fun c=>c=ai) x1.keep (fun c e=>.inr (e ▸ rfl)) fun c e=>e ▸ hex
    have hD1:({ s with heap:=h',toks:=tk }:Shared).heap.get? D=some (listO [] c'):=hD
    generalize ({ s with heap:=h',toks:=tk }:Shared)=s₁ at x1 e1 hD1 ⊢
    refine wpAny_List (wpAny_items_nil ⟨Nat.zero_le _,?_⟩)
    have x2:=Ext.pushed NoX s₁ (listO [] 0)
    have l2:=list_done (C:=T.C) (X:=X) (s:=s₁) (xs:=[]) (its:=[]) e1.newX rfl
    have l1:EVok T.C X ({ s₁ with heap:=s₁.heap.push (listO [] 0) }:Shared).heap (.v (.list [])) (.ref D):=show LV _ _ _ _ _ from .mk nD (x2.keep _ _ hD1 id) rfl
    have l2:=l2.r
    generalize ({ s₁ with heap:=s₁.heap.push (listO [] 0) }:Shared)=s₂ at x2 l1 l2 ⊢
    refine cmp_ok (T:=T) (fun A pa=>Nat.lt_of_le_of_lt (Nat.add_le_add_left (by decide) _) (hG.bud A pa).units) .Eq (.v (.list [])) (.v (.list [])) true A X s₂ _ _ c.pa (by decide) l1 l2 _ E fun v s₃ q3=>?_
    cases q3.e
    refine wpAny_truthy_bool ?_
    have x13:=x2.trans q3.x
    have c3:SCtx T G (dropN it σ) A X (Or2 B (Owns s.heap (.iter tg []) (.ref ai))) env s₃:=⟨c.pa,e1.keep x13.keep⟩
    exact ret_out c3 (fun zz=>.inl) ha hv _ E fun v s₄ q4=>k _ _ (q4.pre ((Step.wr x1 fun c e=>e ▸ o.w).trans (.nox x13)))
 | _=>exact no hq
end
structure GoodE (T:Th) (G:Gl) (x:E):Prop where
 e:ESound T G x
 t:TSound T G x
 f:freshE x=true → FSound T G x
 c:∀ elt g gs sc p,x=.comp elt g gs sc p → CompP T G elt g gs sc
theorem GlOk.sc {T:Th} {G:Gl} (h:GlOk T G) (K:Ks):GlOk T { G with sc:=K }:=
 ⟨h.gns,h.bns,h.const,h.tab,h.inSet,h.cattr,h.fld,h.sto,h.tget,h.bud,h.bname,h.bval,h.icall,h.call,h.meth⟩
section
variable {T:Th} {G:Gl} {x:V.E}
noncomputable abbrev plainT (x:V.E):Prop:=∀ env,isTrue x.b env (eval x.b env)=(do let v ← eval x.b env; standAt x.b.pos; holding [v] (truthy v))
theorem tVal (he:ESound T G x) (ht:∀ σ o,tr G x σ o=trV o) (hi:plainT x):TSound T G x:=fun σ b h=>by
 rw [ht] at h
 exact obind h fun d hd h A X env s c Q E k=>wpAny_isTrue_value (he σ d hd A X env s c _ E fun v s₁ q=>truth_ok h q.r _ E fun b' s₂ q2=>k _ _ (q.vr q2)) (hi env)
theorem GoodE.p (he:ESound T G x) (ht:TSound T G x) (nf:freshE x=false) (nc:isLC x=false):GoodE T G x:=⟨he,ht,fun h=>Bool.noConfusion (nf.symm.trans h),fun zz zz zz zz zz h=>by rw [h] at nc; cases nc⟩
theorem GoodE.v (he:ESound T G x) (ht:∀ σ o,tr G x σ o=trV o) (hi:plainT x) (nf:freshE x=false) (nc:isLC x=false):GoodE T G x:=.p he (tVal he ht hi) nf nc
theorem GoodE.fr (he:FSound T G x) (ht:∀ σ o,tr G x σ o=trV o) (hi:plainT x) (nc:isLC x=false):GoodE T G x:=⟨he.e,tVal he.e ht hi,fun zz=>he,fun zz zz zz zz zz h=>by rw [h] at nc; cases nc⟩
theorem Each.map {P Q:V.E → Prop} {l:List V.E} (h:Each P l) (f:∀ x,P x → Q x):Each Q l:=by
 induction h with
 | nil=>exact .nil
 | cons p q ih=>exact .cons (f _ p) ih
theorem Each.e {l:List V.E} (h:Each (GoodE T G) l):Each (ESound T G) l:=h.map fun zz q=>q.e
theorem Each.t {l:List V.E} (h:Each (GoodE T G) l):Each (TSound T G) l:=h.map fun zz q=>q.t
end
theorem goodE {T:Th} (hc:CmpOk T) (e:E):∀ G,GlOk T G → GoodE T G e:=
 @E.rec (fun e=>∀ G,GlOk T G → GoodE T G e) (fun g=>∀ G G',GlOk T G → GlOk T G' → GnOk T G G' g) (fun it=>∀ G t,GlOk T G → tOk t it=true → ISound T G it t) (fun es=>∀ G,GlOk T G → Each (GoodE T G) es) (fun gs=>∀ G,GlOk T G → ∀ g ∈ gs,GnOk T G G g) (fun o=>∀ G,GlOk T G → ∀ e,o=some e → ESound T G e)
  (fun zz zz zz zz zz=>.v sConst (fun zz zz=>rfl) (fun zz=>rfl) rfl rfl)
  (fun zz zz zz zz=>.v sName (fun zz zz=>rfl) (fun zz=>rfl) rfl rfl)
  (fun zz zz zz hG=>.v (sGname hG) (fun zz zz=>rfl) (fun zz=>rfl) rfl rfl)
  (fun zz zz zz zz hl hr G hG=>.fr (sBin (hl G hG).e (hr G hG).e) (fun zz zz=>rfl) (fun zz=>rfl) rfl)
  (fun zz zz hx G hG=>.v (sNeg (hx G hG).e) (fun zz zz=>rfl) (fun zz=>rfl) rfl rfl)
  (fun zz zz hx G hG=>.p (sNot (hx G hG).e) (tNot (hx G hG).t) rfl rfl)
  (fun zz zz zz hs G hG=>.p (fun zz zz h=>no h) (tBool (hs G hG).t) rfl rfl)
  (fun zz zz zz zz ht ha hb G hG=>.p (sIf (ht G hG).t (ha G hG).e (hb G hG).e) (fun zz zz h=>no h) rfl rfl)
  (fun zz zz zz zz hl hs G hG=>.p (sCmp hc (hl G hG).e (hs G hG).e) (tCmp hc (hl G hG).e (hs G hG).e) rfl rfl)
  (fun zz zz zz zz hl G hG=>.p (sInS hG (hl G hG).e) (tInS hG (hl G hG).e) rfl rfl)
  (fun zz zz hs G hG=>.fr (sList (hs G hG).e) (fun zz zz=>rfl) (fun zz=>rfl) rfl)
  (fun zz zz zz hs G hG=>.v (sTuple (hs G hG).e) (fun zz zz=>rfl) (fun zz=>rfl) rfl rfl)
  (fun elt g gs sc p he hg hgs G hG=>
   have hp:CompP T G elt g gs sc:=⟨(he _ (hG.sc _)).e,hg _ _ hG (hG.sc _),hgs _ (hG.sc _)⟩
   have h:=sComp hG.bud hp
   ⟨h.e,tVal h.e (fun zz zz=>rfl) (fun zz=>rfl),fun zz=>h,fun zz zz zz zz zz e=>by cases e; exact hp⟩)
  (fun zz zz zz zz zz hG=>.v (sAttr hG) (fun zz zz=>rfl) (fun zz=>rfl) rfl rfl)
  (fun zz zz zz zz zz hG=>.v (sCattr hG) (fun zz zz=>rfl) (fun zz=>rfl) rfl rfl)
  (fun zz zz zz ho hi G hG=>.v (sSub (ho G hG).e (hi G hG).e) (fun zz zz=>rfl) (fun zz=>rfl) rfl rfl)
  (fun zz zz zz zz hi G hG=>.v (sTab hG (hi G hG).e) (fun zz zz=>rfl) (fun zz=>rfl) rfl rfl)
  (fun zz zz zz zz zz zz ho h1 h2 h3 G hG=>.v (sSlice (ho G hG).e (h1 G hG) (h2 G hG) (h3 G hG)) (fun zz zz=>rfl) (fun zz=>rfl) rfl rfl)
  (fun zz zz zz zz hs G hG=>.v (sCallB hG (hs G hG).e) (fun zz zz=>rfl) (fun zz=>rfl) rfl rfl)
  (fun zz zz zz zz hs G hG=>.v (sCallD hG (hs G hG).e) (fun zz zz=>rfl) (fun zz=>rfl) rfl rfl)
  (fun zz zz zz zz zz hs G hG=>.v (sLrange hG (hs G hG).e) (fun zz zz=>rfl) (fun zz=>rfl) rfl rfl)
  (fun zz zz zz zz zz ho hs G hG=>.v (sMeth hG (ho G hG).e (hs G hG).e) (fun zz zz=>rfl) (fun zz=>rfl) rfl rfl)
  (fun zz zz zz zz zz hs G hG=>.v (sGet hG (hs G hG).e) (fun zz zz=>rfl) (fun zz=>rfl) rfl rfl)
  (fun zz zz zz=>.p (fun zz zz h=>no h) (fun zz zz h=>no h) rfl rfl)
  (fun zz zz zz hi hs G G' hG hG'=>.mk (hi G _ hG) (hs G' hG').t)
  (fun zz he G zz hG zz=>iVal hG (he G hG).e)
  (fun zz zz zz hs G zz hG zz=>iRange hG (hs G hG).e)
  (fun zz zz zz hs G t hG ht=>iZip hG (fun zz zz e=>by rw [e] at ht; cases ht) (hs G hG).e)
  (fun zz zz=>.nil)
  (fun zz zz h hr G hG=>.cons (h G hG) (hr G hG))
  (fun zz zz=>nofun)
  (fun zz zz h hr G hG g hm=>by
   cases hm with
   | head=>exact h G G hG hG
   | tail _ hm=>exact hr G hG g hm)
  (fun zz zz=>nofun)
  (fun zz h G hG e q=>by cases q; exact (h G hG).e)
  e
theorem goodIt {T:Th} {G:Gl} (hc:CmpOk T) (hG:GlOk T G) (it:It) (t:Tg) (h:tOk t it=true):ISound T G it t:=by
 have each:∀ es:List E,Each (ESound T G) es:=fun es=>by
  induction es with
  | nil=>exact .nil
  | cons e r ih=>exact .cons (goodE hc e G hG).e ih
 cases it with
 | val e=>exact iVal hG (goodE hc e G hG).e
 | range fp es p=>exact iRange hG (each es)
 | zip fp es p=>exact iZip hG (fun zz zz e=>by rw [e] at h; cases h) (each es)
theorem sound {T:Th} {G:Gl} (hc:CmpOk T) (hG:GlOk T G) (sts:List S):SsSound T G sts:=
 have g:=fun e=>goodE hc e G hG
 @S.rec_1 (SSound T G) (SsSound T G)
  (fun e zz=>ssRet (g e).e)
  (fun zz zz zz zz zz zz a zz zz zz=>ssRetL hG (g a).e)
  (fun zz zz e zz=>ssSet hG.bud (g e).e (g e).f (g e).c)
  (fun zz zz zz zz zz zz zz=>ssIter hG)
  (fun zz zz zz zz zz zz zz=>ssNext hG)
  (fun zz zz zz zz zz zz zz zz=>ssIcall hG)
  (fun zz zz zz e zz=>ssMany (g e).e)
  (fun zz zz zz e zz=>ssTup hG.bud (g e).e)
  (fun zz zz zz zz e zz=>ssAttr hG (g e).e)
  (fun zz zz i zz e zz=>ssItem (g e).e (g i).e)
  (fun zz zz zz e zz=>ssAugName (g e).e)
  (fun zz zz i zz zz e zz=>ssAugItem (g e).e (g i).e)
  (fun zz zz zz e zz zz=>ssApp (g e).e)
  (fun t zz zz zz ha hb=>ssIf (g t).t ha hb)
  (fun t zz zz zz ha hb=>ssWhile (g t).t ha hb)
  (fun t it zz zz zz ha hb=>ssFor hG.bud (goodIt hc hG it t) ha hb)
  (fun zz=>ssBreak)
  (fun zz=>ssPass)
  (fun zz zz zz zz h=>no h)
  ssNil
  (fun zz zz h hr=>ssCons h hr)
  sts
noncomputable def nodupN:List Nm → Bool
 | []=>true
 | x :: r=>!(memN x r) && nodupN r
noncomputable def parK (o:Option NameKind):Bool:=decide (o=some .local) || decide (o=some .cell)
noncomputable def scFit (D:Df):Bool:=decide (D.sc.kind=.function) && (!D.sc.isCoroutine && (!D.sc.isGenerator && ((D.sc.names.all fun p=>!(decide (p.2=.free))) && ((D.params.all fun x=>parK (kindN x D.sc.names)) && nodupN D.params))))
structure ScFit (D:Df):Prop where
 k:D.sc.kind=.function
 co:D.sc.isCoroutine=false
 ge:D.sc.isGenerator=false
 nf:∀ p ∈ D.sc.names,p.2 ≠ .free
 pk:∀ x ∈ D.params,kindN x D.sc.names=some .local ∨ kindN x D.sc.names=some .cell
 nd:nodupN D.params=true
theorem sc_fit {D:Df} (h:scFit D=true):ScFit D:=band h fun h1 h=>band h fun h2 h=>band h fun h3 h=>band h fun h4 h=>band h fun h5 h6=>
 ⟨dec h1,bnot h2,bnot h3,fun p hp=>of_decide_eq_false (bnot (List.all_eq_true.mp h4 p hp)),fun x hx=>bor' (List.all_eq_true.mp h5 x hx) (fun h=>.inl (dec h)) fun h=>.inr (dec h),h6⟩
inductive Par (C:Cx) (X:Addr → Prop) (h:Heap):List Nm → Sg → List Value → Prop
 | nil:Par C X h [] [] []
 | cons {x:Nm} {sl:Slot} {v:Value} {ps:List Nm} {σ:Sg} {vs:List Value} (ok:SlotOk C X h sl v) (r:Par C X h ps σ vs):Par C X h (x :: ps) ((x,sl) :: σ) (v :: vs)
section
variable {C:Cx} {X:Addr → Prop} {h:Heap}
theorem Par.len {ps:List Nm} {σ:Sg} {vs:List Value} (r:Par C X h ps σ vs):vs.length=ps.length:=by
 induction r with
 | nil=>rfl
 | cons ok r ih=>exact congrArg (· + 1) ih
structure ParAt (C:Cx) (X:Addr → Prop) (h:Heap) (ps:List Nm) (vs:List Value) (x:Nm) (sl:Slot) (v:Value):Prop where
 e:lookN x (ps.zip vs)=some v
 ok:SlotOk C X h sl v
 m:x ∈ ps
theorem Par.get {ps:List Nm} {σ:Sg} {vs:List Value} (r:Par C X h ps σ vs) {x:Nm} {sl:Slot} (hx:lookN x σ=some sl):∃ v,ParAt C X h ps vs x sl v:=by
 induction r with
 | nil=>cases hx
 | @cons y s v ps σ vs ok r ih=>
  have hx:(bif nmEq y x then some s else lookN x σ)=some sl:=hx
  cases e:nmEq y x with
  | true=>
   rw [e] at hx
   cases hx
   exact ⟨v,by show (bif nmEq y x then some v else _)=_; rw [e]; rfl,ok,nmEq_of e ▸ .head _⟩
  | false=>
   rw [e] at hx
   exact (ih hx).imp fun u q=>⟨by show (bif nmEq y x then some v else lookN x (ps.zip vs))=_; rw [e]; exact q.e,q.ok,.tail _ q.m⟩
theorem par_fz:∀ {ps:List Nm} {ds:List PV} {vs:List Value},(ps.length == ds.length)=true → Reps C X h ds vs → Par C X h ps (zipArgs ps ds) vs
 | [],[],vs,_,r=>by cases r; exact .nil
 | p :: ps,d :: ds,vs,e,r=>by
  cases r with | mk a b=>exact .cons a (par_fz (beq_iff_eq.mpr (Nat.succ.inj (eq_of_beq e))) b)
theorem fz_of:∀ {ps:List Nm} {ds:List PV} {x:Nm} {sl:Slot},lookN x (zipArgs ps ds)=some sl → ∃ d,sl=.fz d
 | [],ds,x,sl,h=>no h
 | p :: ps,[],x,sl,h=>no h
 | p :: ps,d :: ds,x,sl,h=>by
  have h:(bif nmEq p x then some (.fz d) else lookN x (zipArgs ps ds))=some sl:=h
  cases e:nmEq p x with
  | true=>rw [e] at h; exact ⟨d,(Option.some.inj h).symm⟩
  | false=>rw [e] at h; exact fz_of (ps:=ps) (ds:=ds) h
end
theorem memN_of {x:Nm} {l:List Nm} (h:x ∈ l):memN x l=true:=by
 induction l with
 | nil=>cases h
 | cons y r ih=>cases h with
  | head=>show (nmEq x x || _)=true; rw [nmEq_self]; rfl
  | tail _ h=>show (_ || memN x r)=true; rw [ih h,Bool.or_true]
section
variable (k:PySem.Str → Option NameKind) {x:Nm} {v:Value}
theorem bindC_eq:∀ (l:List (PySem.Str × Value)) (m:PySem.Str → Option Value),PySem.bindC k l m=bindL (fun n=>if k n=some .local then none else some .local) l m
 | [],m=>rfl
 | (n,v) :: r,m=>by
  show PySem.bindC k r _=bindL _ r _
  rw [bindC_eq r]
  by_cases e:k n=some .local
  ·rw [if_pos e,if_neg (by dsimp only; rw [if_pos e]; nofun)]
  ·rw [if_neg e,if_pos (by dsimp only; rw [if_neg e])]
theorem bindL_not:∀ (ps:List Nm) (vs:List Value) (m:PySem.Str → Option Value),x ∉ ps → bindL k ((ps.map mkS).zip vs) m (mkS x)=m (mkS x)
 | [],vs,m,_=>rfl
 | p :: ps,[],m,_=>rfl
 | p :: ps,v :: vs,m,hn=>by
  show bindL k ((ps.map mkS).zip vs) _ (mkS x)=_
  rw [bindL_not ps vs _ fun h=>hn (.tail _ h)]
  by_cases hk:k (mkS p)=some .local
  ·rw [if_pos hk,if_neg fun h=>hn (by cases mkS_inj h; exact .head _)]
  ·rw [if_neg hk]
theorem bindL_at (hk:k (mkS x)=some .local):∀ (ps:List Nm) (vs:List Value) (m:PySem.Str → Option Value),nodupN ps=true → lookN x (ps.zip vs)=some v → bindL k ((ps.map mkS).zip vs) m (mkS x)=some v
 | [],vs,m,_,h=>no h
 | p :: ps,[],m,_,h=>no h
 | p :: ps,u :: vs,m,hn,h=>band hn fun h1 h2=>by
  have h0:(bif nmEq p x then some u else lookN x (ps.zip vs))=some v:=h
  show bindL k ((ps.map mkS).zip vs) _ (mkS x)=_
  cases q:nmEq p x with
  | true=>
   rw [q] at h0
   cases nmEq_of q
   rw [bindL_not k ps vs _ fun h=>Bool.false_ne_true ((bnot h1).symm.trans (memN_of h)),if_pos hk,if_pos rfl]
   exact h0
  | false=>
   rw [q] at h0
   exact bindL_at hk ps vs _ h2 h0
end
structure Std (C:Cx) (X:Addr → Prop) (h:Heap):Prop where
 base:Keep NoX C.hb h
 newB:∀ a,X a → C.hb.get? a=none
 bnd:∀ a,X a → ∃ o,h.get? a=some o
structure Enter (C:Cx) (K:Ks) (X O:Addr → Prop) (env:Env) (s s₁:Shared) (σ:Sg):Prop where
 e:EnvF C K (Or2 X (Fra env)) (fun a=>X a ∧ ¬ O a) env s₁.heap σ
 x:Ext NoX s s₁
 nw:∀ a,Fra env a → s.heap.get? a=none
structure OneOwn (h:Heap) (O:Addr → Prop) (x0:Nm) (σ:Sg) (ps:List Nm) (vs:List Value):Prop where
 o:∀ sl v,lookN x0 σ=some sl → lookN x0 (ps.zip vs)=some v → ∀ a,Owns h sl v a → O a
 f:∀ y sl,lookN y σ=some sl → y ≠ x0 → ∃ d,sl=.fz d
theorem enter {C:Cx} {X O:Addr → Prop} {D:Df} {fd:FuncData} {s s₁:Shared} {f:Addr} {σ:Sg} {vs:List Value} {x0:Nm} (hsc:fd.scope=D.sc) (fit:ScFit D) (hgl:fd.globals=C.gl) (hbi:fd.builtins=C.bi)
  (x:InCallC s (callEnvC fd s.heap.objs.size f).locals (bindL (callEnvC fd s.heap.objs.size f).kindOf ((D.params.map mkS).zip vs) fun zz=>none) (callEnvC fd s.heap.objs.size f).cells (PySem.bindC (callEnvC fd s.heap.objs.size f).kindOf ((D.params.map mkS).zip vs) fun zz=>none) s₁)
  (st:Std C X s.heap) (hp:Par C X s.heap D.params σ vs) (ow:OneOwn s.heap O x0 σ D.params vs):Enter C D.sc.names X O (callEnvC fd s.heap.objs.size f) s s₁ σ:=by
 have hkind:∀ y,(callEnvC fd s.heap.objs.size f).kindOf (mkS y)=kindN y D.sc.names:=fun y=>by
  rw [kindN_lookup]; show fd.scope.names.lookup (mkS y)=_; rw [hsc]
 have hcells:(callEnvC fd s.heap.objs.size f).cells=cellsFrom (s.heap.objs.size + 1) D.sc.names []:=by show cellsFrom _ fd.scope.names []=_; rw [hsc]
 have hkf:(callEnvC fd s.heap.objs.size f).scope.kind=.function:=by show fd.scope.kind=_; rw [hsc]; exact fit.k
 have hgl:(callEnvC fd s.heap.objs.size f).globals=C.gl:=hgl
 have hbi:(callEnvC fd s.heap.objs.size f).builtins=C.bi:=hbi
 have hloc:(callEnvC fd s.heap.objs.size f).locals=s.heap.objs.size:=rfl
 generalize callEnvC fd s.heap.objs.size f=env at x hkind hcells hkf hgl hbi hloc ⊢
 have above:∀ y c,env.cells.lookup y=some c → s.heap.objs.size < c:=fun y c hy=>hloc ▸ x.above y c (mem_of_lookup hy)
 have nw:∀ a,Fra env a → s.heap.get? a=none:=fun a h=>h.elim (fun e=>none_size (Nat.le_of_eq (e ▸ hloc).symm)) fun ⟨y,hy⟩=>none_size (Nat.le_of_lt (above y a hy))
 have ext:Ext NoX s s₁:=by
  obtain ⟨hh,tk,e1,kk⟩:=x.toInCall.done
  exact ⟨fun b o hb zz=>x.toInCall.keep b o hb,by rw [e1],by rw [e1]⟩
 have fit':Fit X (Or2 X (Fra env)) s.heap s₁.heap:=⟨ext.keep.any,fun a o g n z=>z.elim n fun f=>by rw [nw a f] at g; cases g⟩
 have cell:∀ y,kindN y D.sc.names=some .cell → ∃ c,env.cells.lookup (mkS y)=some c:=fun y hy=>hcells ▸ Option.isSome_iff_exists.mp (cellsFrom_some _ _ _ (.inl (by rw [← kindN_lookup]; exact hy)))
 have named:∀ {y sl v},ParAt C X s.heap D.params vs y sl v → NameAt env s₁.heap (mkS y) v:=fun {y sl v} q=>(fit.pk y q.m).elim (fun hl=>.loc (by rw [hkind]; exact hl) x.toInCall.ns (bindL_at _ (by rw [hkind]; exact hl) _ _ _ fit.nd q.e)) fun hc=>(cell y hc).elim fun c hcl=>by
  refine .cell (.inl (by rw [hkind]; exact hc)) hcl ?_
  have ic:=x.cell _ _ hcl
  rw [bindC_eq,bindL_at (v:=v) _ (by rw [hkind,hc]; rfl) _ _ _ fit.nd q.e] at ic
  exact ic
 have val:∀ {y sl},lookN y σ=some sl → ParAt C X s.heap D.params vs y sl ((lookN y (D.params.zip vs)).getD .none):=fun hy=>(hp.get hy).elim fun v q=>by rw [q.e]; exact q
 have back:∀ {y sl} (hy:lookN y σ=some sl) {a},Owns s₁.heap sl ((lookN y (D.params.zip vs)).getD .none) a → Owns s.heap sl ((lookN y (D.params.zip vs)).getD .none) a:=fun hy=>Owns.back (val hy).ok fun b zz o g=>ext.keep b o g id
 have fz:∀ {y sl},lookN y σ=some sl → ∀ {h:Heap} {v a},Owns h sl v a → y=x0:=fun {y sl} hy {h v a} w=>Classical.byContradiction fun n=>(ow.f y sl hy n).elim fun d e=>by subst e; exact w
 refine ⟨⟨hkf,hgl,hbi,st.base.trans ext.keep,fun a h=>h.elim (st.newB a) fun f=>?_,⟨_,x.toInCall.ns⟩,.inr (.inl rfl),fun y c hc=>⟨.inr (.inr ⟨y,hc⟩),fun e=>Nat.lt_irrefl _ (by have:=above y c hc; rw [e,hloc] at this; exact this),_,x.cell _ _ hc⟩,fun y z c hy hz=>name_of_addr x.apart (mem_of_lookup hy) (mem_of_lookup hz),fun y k hk=>?_,fun a h=>h.elim (fun x=>(st.bnd a x).elim fun o g=>⟨o,ext.keep a o g id⟩) fun f=>?_,fun a b=>.inl b.1,fun a f b=>(st.bnd a b.1).elim fun o g=>(by rw [nw a f] at g; cases g),fun y=>(lookN y (D.params.zip vs)).getD .none,?_⟩,ext,nw⟩
 ·cases g:C.hb.get? a with
  | none=>rfl
  | some o=>have:=st.base a o g id; rw [nw a f] at this; cases this
 ·have hky:=hkind y
  rw [hk] at hky
  cases k with
  | «local»=>exact hky
  | globalImplicit=>exact hky
  | globalExplicit=>exact trivial
  | cell=>exact ⟨hky,cell y hk⟩
  | free=>
   rw [kindN_lookup] at hk
   exact absurd rfl (fit.nf _ (mem_of_lookup hk))
 ·refine f.elim (fun e=>?_) fun ⟨y,hy⟩=>(x.cell _ _ hy).elim fun o q=>⟨o,q.1⟩
  obtain ⟨o,_,_,ho,_⟩:=x.toInCall.ns
  exact ⟨o,e ▸ ho⟩
 ·refine ⟨fun y sl hy=>named (val hy),fun y sl hy=>(val hy).ok.mono fit' fun a w=>⟨.inl ((val hy).ok.owned a w).1,fun o g=>ext.keep a o g id⟩,fun y z sl sl' ne hy hz a wa wb=>ne ((fz hy wa).trans (fz hz wb).symm),fun y sl hy a w f=>?_,fun y sl hy a w b=>?_⟩
  ·obtain ⟨o,g⟩:=((val hy).ok.owned a (back hy w)).2
   rw [nw a f] at g; cases g
  ·have e:=fz hy w
   subst e
   exact b.2 (ow.o sl _ hy (val hy).e a (back hy w))
structure PB (n:Nat) (A:Around):Prop where
 handled:A.handled=none
 guards:A.guards=some []
 units:A.units + 200 + 10 * n < cLine
 depth:A.depth + 10 + 10 * n < recursionLimit
theorem PB.bud {n:Nat} {A:Around} (h:PB n A):Bud A:=⟨h.handled,h.guards,by have:=h.units; omega⟩
theorem PB.room {n:Nat} {A:Around} (h:PB n A):A.depth < recursionLimit:=by have:=h.depth; omega
theorem PB.down {n:Nat} {A:Around} {env:Env} (h:PB (n + 1) A):PB n (A.deeper env):=⟨h.handled,h.guards,by have:=h.units; rw [Around.deeper_units]; omega,by have:=h.depth; show A.depth + 1 + 10 + 10 * n < recursionLimit; omega⟩
inductive DefFit (C:Cx) (D:Df) (f:Addr):Prop
 | mk {o:Obj} {fd:FuncData} (g:C.hb.get? f=some o) (oc:o.cls=.type "function") (od:o.data=.func fd) (body:fd.body=.stmts (sbs D.body)) (sc:fd.scope=D.sc) (gl:fd.globals=C.gl) (bi:fd.builtins=C.bi) (clo:fd.closure=[]) (code:C.hb.CodeRec fd.code fd.qualname)
  (args:∀ vals:List Value,vals.length=D.params.length → bindArgs fd ⟨vals,[]⟩=pure ((D.params.map mkS).zip vals)) (fit:scFit D=true):DefFit C D f
structure DefR (C:Cx) (K:Ks) (X O:Addr → Prop) (s:Shared) (fl:Fl) (σ:Sg) (env:Env) (X':Addr → Prop) (f:Flow) (s':Shared):Prop where
 x:Ext O s s'
 e:EnvF C K X' (fun a=>X a ∧ ¬ O a) env s'.heap σ
 f:FlowOk C (fun a=>X a ∧ ¬ O a) s'.heap fl f
 g:∀ a,X a → X' a
section
variable {T:Th} {G:Gl} {D:Df} {f:Addr} {A:Around} {X O:Addr → Prop} {s:Shared}
theorem fit_keepable (fit:DefFit T.C D f) (A:Around) (s:Shared) (k:Keep NoX T.C.hb s.heap):Keepable (model T.prog T.w) A (.ref f) s:=by
 cases fit with | mk g oc od=>exact keepable_func (k f _ g id) od
theorem At.std (a:At T A X s):Std T.C X s.heap:=⟨a.base,a.newB,a.bnd⟩
theorem def_code (fit:DefFit T.C D f) (hlim:T.C.hb.NoLimit) (hsc:G.sc=D.sc.names) (hc:CmpOk T) (hG:GlOk T G) {σ:Sg} {vs:List Value} {x0:Nm} {R:Result → Shared → Prop} (hroom:A.depth < recursionLimit) (hA:∀ env,T.P (A.deeper env)) (st:Std T.C X s.heap)
  (hp:Par T.C X s.heap D.params σ vs) (ow:OneOwn s.heap O x0 σ D.params vs) {fl:Fl} {σ':Sg} (h:exs G D.body σ=some (fl,σ')) (hR:∀ env X' f s',DefR T.C G.sc X O s fl σ' env X' f s' → R (.ok (.ret (match f with | .ret v=>v | _=>.none))) s') :
  codeAny (model T.prog T.w) A (.call (.ref f) ⟨vs,[]⟩) R s:=by
 cases fit with | @mk o fd g oc od body sc gl bi clo code args fit=>
 have fit:=sc_fit fit
 have up:∀ b o,T.C.hb.get? b=some o → s.heap.get? b=some o:=fun b o e=>st.base b o e id
 refine codeAny_call_cells hroom (up f o g) od (hlim.keeps up) (code.keeps up) body (args vs hp.len) clo (fun x hx=>?_) (fun s₁ x=>?_) (by rw [sc]; exact fit.co) (by rw [sc]; exact fit.ge) (by rw [sc]; exact fit.k)
 ·obtain ⟨p,hp1,hp2⟩:=List.mem_map.mp (List.of_mem_zip hx).1
  rw [sc,← hp2,← kindN_lookup]
  exact (fit.pk p hp1).imp id fun hc=>⟨hc,cellsFrom_some _ _ _ (.inl (by rw [← kindN_lookup]; exact hc))⟩
 ·have en:=enter sc fit gl bi x st hp ow
  rw [← hsc] at en
  refine sound hc hG D.body _ fl σ' h _ _ _ _ s₁ ⟨hA _,en.e⟩ _ (fun zz zz=>False) (fun f s₂ q=>?_) |> fun h=>wpAny_mono h (fun zz zz z=>z) fun zz zz z=>z.elim
  cases q with | mk t e o=>
  exact hR _ _ f s₂ ⟨⟨fun a o g n=>t.x.keep a o (en.x.keep a o g id) fun y=>y.1.elim (fun x=>y.2 ⟨x,n⟩) fun f=>(by rw [en.nw a f] at g; cases g),t.x.os.trans en.x.os,t.x.gens.trans en.x.gens⟩,e,o,fun a x=>t.g a (.inl x)⟩
theorem def_call (fit:DefFit T.C D f) (hlim:T.C.hb.NoLimit) (hsc:G.sc=D.sc.names) (hc:CmpOk T) (hG:GlOk T G) {args:List PV} {d:PV} (hlen:(D.params.length == args.length)=true) (h:retOf (exs G D.body (zipArgs D.params args))=some d)
  {vs:List Value} (hroom:A.depth < recursionLimit) (hA:∀ env,T.P (A.deeper env)) (st:Std T.C X s.heap) (r:Reps T.C X s.heap args vs):Tr (model T.prog T.w) A (PySem.call (.ref f) vs) s (ER T.C X s (.v d)):=fun Q E k=>obind h fun q hq h=>by
 obtain ⟨fl,σ'⟩:=q
 refine wpAny_call (def_code (O:=NoX) (x0:=[]) (R:=fun r s'=>match r with | .ok (.ret v)=>Q v s' | .ok _=>False | .error e=>E e s') fit hlim hsc hc hG hroom hA st (par_fz hlen r) ⟨fun sl v hx zz a w=>?_,fun y sl hy zz=>fz_of hy⟩ hq fun env X' f s' q=>k _ _ ⟨q.x,?_⟩)
 ·obtain ⟨d,rfl⟩:=fz_of hx
  exact w
 ·cases q.f with
  | next=>cases h; exact rfl
  | brk=>cases h
  | ret r=>cases h; exact Rep.keep ⟨Keep.refl _ _,fun a o g n x=>n ⟨x,id⟩⟩ d r
theorem look1 {α:Type} {j p:Nm} {y z:α} (h:lookN j [(p,y)]=some z):j=p ∧ z=y:=by
 have h:(bif nmEq p j then some y else none)=some z:=h
 cases q:nmEq p j with
 | true=>rw [q] at h; exact ⟨(nmEq_of q).symm,(Option.some.inj h).symm⟩
 | false=>rw [q] at h; cases h
theorem def_icall (fit:DefFit T.C D f) (hlim:T.C.hb.NoLimit) (hsc:G.sc=D.sc.names) (hc:CmpOk T) (hG:GlOk T G) {p:Nm} (hpar:D.params=[p]) {xs:List PV} {i:Int} {r:List PV} {a:Addr} {σ':Sg}
  (h1:exs G D.body [(p,.iter (some a) xs)]=some (.ret (.int i),σ')) (h2:lookN p σ'=some (.iter (some a) r)) (hroom:A.depth < recursionLimit) (hA:∀ env,T.P (A.deeper env)) (st:Std T.C X s.heap) (sl:SlotOk T.C X s.heap (.iter none xs) (.ref a)) :
  Tr (model T.prog T.w) A (PySem.call (.ref f) [.ref a]) s (IR T.C X a (.int i) r s):=fun Q E k=>by
 have sl:ItV none X s.heap xs (.ref a):=sl
 cases sl with | mk _ xa hb g oc od e=>
 have it:SlotOk T.C X s.heap (.iter (some a) xs) (.ref a):=show ItV _ _ _ _ _ from .mk (fun c h=>(Option.some.inj h).symm) xa hb g oc od e
 refine wpAny_call (def_code (O:=fun b=>b=a) (x0:=p) (σ:=[(p,.iter (some a) xs)]) (vs:=[.ref a]) (R:=fun r s'=>match r with | .ok (.ret v)=>Q v s' | .ok _=>False | .error e=>E e s') fit hlim hsc hc hG hroom hA st (by rw [hpar]; exact .cons it .nil) ⟨fun sl v hx hv b w=>?_,fun y sl hy n=>absurd (look1 hy).1 n⟩ h1 fun env X' f s' q=>k _ _ ?_)
 ·cases (look1 hx).2
  rw [hpar] at hv
  cases (look1 hv).2
  cases w; rfl
 ·obtain ⟨v',n',q'⟩:=q.e.slot h2
  have q':ItV (some a) X' s'.heap r v':=q'
  cases q' with | mk ht _ hb' g' oc' od' e'=>
  cases ht a rfl
  cases q.f with | ret rv=>
  exact ⟨q.x,rv,show ItV _ _ _ _ _ from .mk nofun xa hb' g' oc' od' e'⟩
end
noncomputable abbrev Cx.as (C:Cx) (me:Value → Prop):Cx:={ C with me:=me }
section
variable {C:Cx} {me:Value → Prop} {X:Addr → Prop} {h:Heap}
mutual
theorem Rep.cx {me':Value → Prop}:∀ (d:PV) {v:Value},Rep (C.as me) X h d v → Rep (C.as me') X h d v
 | .none,_,r=>r
 | .bool _,_,r=>r
 | .int _,_,r=>r
 | .str _,_,r=>r
 | .bytes _,_,r=>r
 | .list xs,_,r=>LV.map r (fun zz zz n e=>⟨n,e⟩) fun zz=>Reps.cx xs
 | .tuple xs,_,r=>LV.map r (fun zz zz n e=>⟨n,e⟩) fun zz=>Reps.cx xs
 | .inst fs,_,r=>IV.casesOn (motive:=fun v zz=>IV (C.as me') _ h (RepF (C.as me') X h fs) v) r fun x x' ne g oc od on nd r=>.mk x x' ne g oc od on nd (RepF.cx fs r)
theorem Reps.cx {me':Value → Prop}:∀ (ds:List PV) {vs:List Value},Reps (C.as me) X h ds vs → Reps (C.as me') X h ds vs
 | [],_,r=>r
 | d :: ds,_,r=>Cons1.casesOn (motive:=fun vs zz=>Cons1 (Rep (C.as me') X h d) (Reps (C.as me') X h ds) vs) r fun p q=>⟨Rep.cx d p,Reps.cx ds q⟩
theorem RepF.cx {me':Value → Prop}:∀ (fs:List (List Nat × PV)) {m:PySem.Str → Option Value},RepF (C.as me) X h fs m → RepF (C.as me') X h fs m
 | [],_,r=>r
 | p :: fs,m,r=>ConsF.casesOn (motive:=fun zz=>ConsF p.1 (Rep (C.as me') X h p.2) (RepF (C.as me') X h fs) m) r fun a b e=>⟨Rep.cx p.2 a,RepF.cx fs b,e⟩
end
end
inductive ClsFit (C:Cx) (D:Df):Prop
 | mk {nm q:PySem.Str} {bs:List Value} {sn:List PySem.Str} {sub:List Value} {col:Option Bool} {dd:Option Addr} {k0 k1 k2 k3 k5:Option Value} {N fI:Addr} {mN:PySem.Str → Option Value}
  (g:C.hb.get? C.cls=some (excClassObj nm q C.cls N bs [.type "object"] true sn sub false col dd k0 k1 k2 k3 k5 "object.__new__")) (hN:C.hb.Ns N mN) (hi:mN "__init__" = some (.ref fI)) (ft:DefFit C D fI):ClsFit C D
theorem DefFit.cx {C:Cx} {D:Df} {f:Addr} {me me':Value → Prop} (h:DefFit (C.as me) D f):DefFit (C.as me') D f:=by
 cases h with | mk g oc od body sc gl bi clo code args fit=>exact .mk g oc od body sc gl bi clo code args fit
theorem ClsFit.cx {C:Cx} {D:Df} {me me':Value → Prop} (h:ClsFit (C.as me) D):ClsFit (C.as me') D:=by
 cases h with | mk g hN hi ft=>exact .mk g hN hi ft.cx
theorem under_new {n:Nat} {A:Around} {a:Addr} {l:List Value} (h:PB (n + 1) A) (env:Env):PB n ((A.under (.builtin "type.__call__" ⟨.ref a :: l,[]⟩)).deeper env):=by
 have h1:(Code.builtin "type.__call__" ⟨.ref a :: l,[]⟩).weight=1:=rfl
 have h2:(Code.builtin "type.__call__" ⟨.ref a :: l,[]⟩).cUnits=1:=rfl
 have h3:(Code.builtin "type.__call__" ⟨.ref a :: l,[]⟩).guards=[]:=rfl
 refine ⟨h.handled,?_,?_,?_⟩
 ·simp only [Around.deeper,Around.under,h3]
  exact h.guards
 ·have:=h.units
  simp only [Around.deeper_units,Around.under,h2]
  omega
 ·have:=h.depth
  show A.depth + _ + 1 + 10 + 10 * n < recursionLimit
  rw [h1]
  omega
theorem look2 {α:Type} {j p q:Nm} {y z a:α} {P:Prop} (h:lookN j [(p,y),(q,z)]=some a) (k1:j=p → a=y → P) (k2:j ≠ p → a=z → P):P:=by
 have h:(bif nmEq p j then some y else lookN j [(q,z)])=some a:=h
 cases e:nmEq p j with
 | true=>rw [e] at h; exact k1 (nmEq_of e).symm (Option.some.inj h).symm
 | false=>
  rw [e] at h
  exact k2 (fun hj=>by rw [hj,nmEq_self] at e; cases e) (look1 h).2
section
variable {prog:Program} {w:World} {C:Cx} {D:Df} {n:Nat} {G:Gl} {A:Around} {X:Addr → Prop} {s:Shared} {me₀:Value → Prop}
theorem cls_call (fit:ClsFit (C.as me₀) D) (hlim:C.hb.NoLimit) (hsc:G.sc=D.sc.names) (hc:∀ me,CmpOk ⟨prog,w,C.as me,PB n⟩) (hG:∀ me,GlOk ⟨prog,w,C.as me,PB n⟩ G) {ps pw:Nm} (hpar:D.params=[ps,pw]) {d:PV} {σ':Sg} {fs:List (List Nat × PV)}
  (h:exs G D.body [(ps,.self []),(pw,.fz d)]=some (.next,σ')) (hs:lookN ps σ'=some (.self fs)) {v0:Value} (hA:PB (n + 1) A) (st:Std (C.as me₀) X s.heap) (r:Rep (C.as me₀) X s.heap d v0) :
  Tr (model prog w) A (PySem.call (.ref C.cls) [v0]) s (ER (C.as me₀) X s (.v (.inst fs))):=fun Q E k=>by
 cases fit with | @mk nm q bs sn sub col dd k0 k1 k2 k3 k5 N fI mN hC hN hi ft=>
 have ft0:=ft
 cases ft0 with | @mk o fd ho hfc _ _ _ _ _ _ _ _ _=>
 have kb:=st.base
 have bX:=st.bnd
 obtain ⟨h0,g0,d0,t0,os0⟩:=s
 refine wpAny_call_obj_init F.objNew (kb _ _ hC id) (Ns.keepX hN kb id) hi (kb _ _ ho id) hfc fun h' x dx hm=>?_
 have old:∀ b o,h0.get? b=some o → b ≠ x ∧ b ≠ dx:=fun b o hb=>⟨fun e=>(by rw [e,hm.newX] at hb; cases hb),fun e=>(by rw [e,hm.newD] at hb; cases hb)⟩
 have kh:Keep NoX h0 h':=fun b o hb zz=>hm.keeps b o hb
 obtain ⟨o,g,oc,on,hd⟩:=hm.inst
 have od:=hm.dict o g
 have hnd:dx ≠ x ∧ h'.Ns1 dx fun zz=>none:=hd.elim (fun h=>by rw [od] at h; cases h.1) fun ⟨d1,h1,h2,h3⟩=>by cases od.symm.trans h1; exact ⟨h2,h3⟩
 have gd:∃ o,h'.get? dx=some o:=let ⟨o,_,_,ho,_⟩:=hnd.2; ⟨o,ho⟩
 have xO:∀ b,(b=x ∨ b=dx) → h0.get? b=none:=fun b h=>h.elim (fun e=>e ▸ hm.newX) fun e=>e ▸ hm.newD
 have nB:∀ b,(b=x ∨ b=dx) → C.hb.get? b=none:=fun b h=>by
  cases q:C.hb.get? b with
  | none=>rfl
  | some o=>have:=kb b o q id; rw [xO b h] at this; cases this
 have me:SlotOk (C.as fun v=>v=.ref x) (Or2 X fun b=>b=x ∨ b=dx) h' (.self []) (.ref x):=⟨rfl,.mk (.inr (.inl rfl)) (.inr (.inr rfl)) hnd.1 g oc od on hnd.2 fun zz=>rfl⟩
 have rd:Rep (C.as fun v=>v=.ref x) (Or2 X fun b=>b=x ∨ b=dx) h' d v0:=Rep.cx d (Rep.keep ⟨kh.any,fun a o ha nx hx=>hx.elim nx fun h=>by rw [xO a h] at ha; cases ha⟩ d r)
 have st':Std (C.as fun v=>v=.ref x) (Or2 X fun b=>b=x ∨ b=dx) h':=⟨kb.trans kh,fun b h=>h.elim (st.newB b) (nB b),fun b h=>h.elim (fun h=>(bX b h).elim fun o g=>⟨o,kh b o g id⟩) fun h=>h.elim (fun e=>⟨o,e ▸ g⟩) fun e=>e ▸ gd⟩
 have ft':DefFit (C.as fun v=>v=.ref x) D fI:=ft.cx
 refine wpAny_call (def_code (T:=⟨prog,w,C.as fun v=>v=.ref x,PB n⟩) (X:=Or2 X fun b=>b=x ∨ b=dx) (O:=fun b=>b=x ∨ b=dx) (x0:=ps) (σ:=[(ps,.self []),(pw,.fz d)]) (R:=fun v s'=>match v with | .ok (.ret v)=>v=.none ∧ Q (.ref x) s' | .ok _=>False | .error e=>E e s') ft' hlim hsc (hc _) (hG _)
  ?_ (fun env=>under_new hA env) st' (by rw [hpar]; exact .cons me (.cons rd .nil)) ⟨fun sl v hx hv b w=>?_,fun y sl hy ny=>look2 hy (fun e=>absurd e ny) fun zz e=>⟨d,e⟩⟩ h fun env X' f s' q=>?_)
 ·have:=hA.depth
  show A.depth + _ < recursionLimit
  have h1:(Code.builtin "type.__call__" ⟨.ref C.cls :: [v0],[]⟩).weight=1:=rfl
  rw [h1]
  omega
 ·rw [hpar] at hv
  refine look2 hx (fun zz e=>?_) fun n zz=>absurd rfl n
  refine look2 (p:=ps) (q:=pw) (y:=Value.ref x) (z:=v0) hv (fun zz e'=>?_) fun n zz=>absurd rfl n
  subst e
  subst e'
  cases w with
  | me=>exact .inl rfl
  | dict g2 e3=>
   cases g.symm.trans g2
   cases od.symm.trans e3
   exact .inr rfl
 ·have x2:=q.x
  have hx2:Ext NoX ⟨h0,g0,d0,t0,os0⟩ s':=⟨fun b o hb zz=>x2.keep b o (kh b o hb id) fun h=>h.elim (old b o hb).1 (old b o hb).2,x2.os,x2.gens⟩
  cases hf:q.f
  refine ⟨rfl,k _ _ ⟨hx2,?_⟩⟩
  obtain ⟨V,sv⟩:=q.e.slots
  have ok:=sv.ok _ _ hs
  have nB:=sv.noB _ _ hs
  have hv:V ps=.ref x:=ok.1
  have iv:IV (C.as fun v=>v=.ref x) X' s'.heap (RepF (C.as fun v=>v=.ref x) X' s'.heap fs) (V ps):=ok.2
  rw [hv] at iv nB
  have newX:∀ b,(b=x ∨ b=dx) → ¬ X b:=fun b h hx=>(bX b hx).elim fun o g=>by rw [xO b h] at g; cases g
  have avoid:∀ b,Owns s'.heap (.self fs) (.ref x) b → ¬ X b:=fun b w hx=>nB b w ⟨.inl hx,fun h=>newX b h hx⟩
  cases iv with | mk xa xd ne2 g2 oc2 od2 on2 nd2 rf=>
  exact show IV _ _ _ _ _ from .mk (avoid _ .me) (avoid _ (.dict g2 od2)) ne2 g2 oc2 od2 on2 nd2 (RepF.cx fs (RepF.keep ⟨Keep.refl _ _,fun b o g n hx=>n (q.g b (.inl hx))⟩ fs rf))
end
structure Leaf (A:Around):Prop where
 handled:A.handled=none
 guards:A.guards=some []
 units:A.units + 150 < cLine
theorem PB.leaf {n:Nat} {A:Around} (h:PB n A):Leaf A:=⟨h.handled,h.guards,by have:=h.units; omega⟩
theorem PB.leafDown {n:Nat} {A:Around} (h:PB n A) (env:Env):Leaf (A.deeper env):=⟨h.handled,h.guards,by have:=h.units; rw [Around.deeper_units]; omega⟩
noncomputable def noCall:Nm → List PV → Option PV:=fun zz zz=>none
noncomputable def noIcall (T:Tx):Tx:={ T with icall:=fun zz zz=>none }
inductive IcOk (C:Cx) (T:Tx) (f:Nm) (xs:List PV) (d:PV) (r:List PV):Prop
 | mk {D:Df} {fA:Addr} {p:Nm} {i:Int} (e:d=.int i) (hp:D.params=[p]) (hg:C.gm (mkS f)=some (.ref fA)) (fit:DefFit C D fA)
  (h:∀ a:Nat,∃ σ',exs (glOf (noIcall T) noCall noCall D) D.body [(p,.iter (some a) xs)]=some (.ret (.int i),σ') ∧ lookN p σ'=some (.iter (some a) r)):IcOk C T f xs d r
structure TxOk (prog:Program) (w:World) (C:Cx) (T:Tx):Prop where
 hlim:C.hb.NoLimit
 leaf:∀ me D,GlOk ⟨prog,w,C.as me,Leaf⟩ (glOf (noIcall T) noCall noCall D)
 icall:∀ me f xs d r,T.icall f xs=some (d,r) → IcOk (C.as me) T f xs d r
 dfs:∀ me f D,lookN f T.dfs=some D → nmEq f T.cls=false → ∃ fA:Addr,C.gm (mkS f)=some (.ref fA) ∧ DefFit (C.as me) D fA
 cls:∀ me D,lookN n_init T.meths=some D → C.gm (mkS T.cls)=some (.ref C.cls) ∧ ClsFit (C.as me) D
 meths:∀ me m D,lookN m T.meths=some D → ∃ f:Addr,DefFit (C.as me) D f ∧ ∀ A s x mA pl Q E,Leaf A → Keep NoX C.hb s.heap → s.heap.Inst x C.cls mA → mA (mkS m)=none → Q (.ref f,[.ref x]) s → wpAny (model prog w) A (getMethod (.ref x) (mkS m) pl) Q E s
theorem Glob.imp {C:Cx} {x:Nm} {R R':Value → Prop} (g:Glob C x R) (h:∀ v,R v → R' v):Glob C x R':=by
 cases g with | mk g r=>exact .mk g (h _ r)
section
variable {prog:Program} {w:World} {C:Cx} {P:Around → Prop} {T:Tx}
theorem cm_leaf (hP:∀ A,P A → Leaf A):CmpOk ⟨prog,w,C,P⟩:=cmp_ok fun A hA=>Nat.lt_of_le_of_lt (Nat.add_le_add_left (by decide) _) (hP A hA).units
theorem at_leaf (hP:∀ A,P A → Leaf A) {A:Around} {X:Addr → Prop} {s:Shared} (a:At ⟨prog,w,C,P⟩ A X s):At ⟨prog,w,C,Leaf⟩ A X s:=⟨hP A a.pa,a.base,a.newB,a.bnd⟩
theorem glOk_of {D D':Df} {call meth:Nm → List PV → Option PV} (hP:∀ A,P A → Leaf A) (hb:GlOk ⟨prog,w,C,Leaf⟩ (glOf (noIcall T) noCall noCall D))
  (hi:∀ f xs d r,T.icall f xs=some (d,r) → Glob C f (IcallOk ⟨prog,w,C,P⟩ xs d r)) (hc:∀ f args d,call f args=some d → Glob C f (FunOk ⟨prog,w,C,P⟩ args d)) (hm:∀ m args d,meth m args=some d → ∃ f:Addr,MethOk ⟨prog,w,C,P⟩ m args d f) :
  GlOk ⟨prog,w,C,P⟩ (glOf T call meth D') where
 gns:=hb.gns
 bns:=hb.bns
 const:=hb.const
 tab t d x h:=(hb.tab t d x h).imp fun v r A X s dv a=>r A X s dv (at_leaf hP a)
 inSet t d b h:=(hb.inSet t d b h).imp fun v r A X s dv a=>r A X s dv (at_leaf hP a)
 cattr c a d h:=(hb.cattr c a d h).imp fun v r A X s a=>r A X s (at_leaf hP a)
 fld a h A X s x mA v at_:=hb.fld a h A X s x mA v (at_leaf hP at_)
 sto a h A X s x mA ns v at_:=hb.sto a h A X s x mA ns v (at_leaf hP at_)
 tget t k r h:=(hb.tget t k r h).imp fun v q=>q.imp fun a q=>⟨q.1,q.2.obj,fun A X s kv at_=>q.2.one A X s kv (at_leaf hP at_),fun A X s kv d dv at_=>q.2.two A X s kv d dv (at_leaf hP at_)⟩
 bud A hA:=hb.bud A (hP A hA)
 bname:=hb.bname
 bval:=hb.bval
 icall:=hi
 call:=hc
 meth:=hm
theorem fun_def {n:Nat} {me:Value → Prop} {D:Df} {G:Gl} {f:Addr} {args:List PV} {d:PV} (hlim:C.hb.NoLimit) (fit:DefFit (C.as me) D f) (hsc:G.sc=D.sc.names) (hG:GlOk ⟨prog,w,C.as me,PB n⟩ G) (hlen:(D.params.length == args.length)=true) (h:retOf (exs G D.body (zipArgs D.params args))=some d) :
  FunOk ⟨prog,w,C.as me,PB (n + 1)⟩ args d (.ref f):=
 ⟨fun A s k=>fit_keepable (T:=⟨prog,w,C.as me,Leaf⟩) fit A s k,fun A X s vs a r=>def_call (T:=⟨prog,w,C.as me,PB n⟩) fit hlim hsc (cm_leaf fun zz h=>h.leaf) hG hlen h a.pa.room (fun env=>a.pa.down) ⟨a.base,a.newB,a.bnd⟩ r⟩
theorem cls_keepable {D:Df} {me:Value → Prop} (fit:ClsFit (C.as me) D) (A:Around) (s:Shared) (k:Keep NoX C.hb s.heap):Keepable (model prog w) A (.ref C.cls) s:=fun Q E h=>by
 cases fit with | mk hC hN hi ft=>
 obtain ⟨h0,g0,d0,t0,os0⟩:=s
 exact wpAny_keeperOf_exc (k _ _ hC id) (h _)
theorem oracle_ok (ok:TxOk prog w C T) (n:Nat):∀ (me:Value → Prop) (D:Df),GlOk ⟨prog,w,C.as me,PB n⟩ (glOf T (oracle T n).call (oracle T n).meth D):=by
 have hi:∀ (n:Nat) (me:Value → Prop) f xs d r,T.icall f xs=some (d,r) → Glob (C.as me) f (IcallOk ⟨prog,w,C.as me,PB n⟩ xs d r):=fun n me f xs d r h=>by
  cases ok.icall me f xs d r h with | @mk D fA p i e hp hg fit hx=>
  subst e
  refine .mk (.g hg) ⟨fun A s k=>fit_keepable (T:=⟨prog,w,C.as me,Leaf⟩) fit A s k,fun A X s a at_ sl=>?_⟩
  obtain ⟨σ',h1,h2⟩:=hx a
  exact def_icall (T:=⟨prog,w,C.as me,Leaf⟩) fit ok.hlim rfl (cm_leaf fun zz h=>h) (ok.leaf me D) hp h1 h2 at_.pa.room at_.pa.leafDown ⟨at_.base,at_.newB,at_.bnd⟩ sl
 induction n with
 | zero=>exact fun me D=>glOk_of (fun zz h=>h.leaf) (ok.leaf me D) (hi 0 me) (fun zz zz zz h=>no h) fun zz zz zz h=>no h
 | succ n ih=>
  intro me D
  refine glOk_of (fun zz h=>h.leaf) (ok.leaf me D) (hi _ me) (fun f args d h=>?_) fun m args d h=>?_
  ·have h:(bif nmEq f T.cls then makeIn (glOf T (oracle T n).call (oracle T n).meth) (lookN n_init T.meths) args else callDf (glOf T (oracle T n).call (oracle T n).meth) (lookN f T.dfs) args)=some d:=h
   cases hf:nmEq f T.cls with
   | true=>
    rw [hf] at h
    cases nmEq_of hf
    refine obind h fun D1 hD h=>obind h fun a ha h=>obind h fun p hp h=>obind h fun q hq h=>?_
    obtain ⟨fl,σ'⟩:=q
    cases fl with
    | next=>
     cases hs:(lookN p.1 σ').bind asSelf with
     | none=>rw [show (Fl.casesOn (motive:=fun zz=>Option PV) Fl.next (((lookN p.1 σ').bind asSelf).map .inst) none fun zz=>none)=((lookN p.1 σ').bind asSelf).map .inst from rfl,hs] at h; cases h
     | some fs=>
      rw [show (Fl.casesOn (motive:=fun zz=>Option PV) Fl.next (((lookN p.1 σ').bind asSelf).map .inst) none fun zz=>none)=((lookN p.1 σ').bind asSelf).map .inst from rfl,hs] at h
      cases h
      have hl:lookN p.1 σ'=some (.self fs):=obind hs fun sl hl h=>by
       cases sl with
       | self fs'=>exact Option.some.inj h ▸ hl
       | _=>exact no h
      have hpar:=two_some hp
      obtain ⟨hg,fit⟩:=ok.cls me D1 hD
      refine .mk (.g hg) ⟨fun A s k=>cls_keepable fit A s k,fun A X s vs at_ r=>?_⟩
      cases args with
      | nil=>exact no ha
      | cons d args=>cases args with
       | cons _ _=>exact no ha
       | nil=>
        cases ha
        cases r with | mk r1 r=>
        cases r
        exact cls_call fit ok.hlim rfl (fun zz=>cm_leaf fun zz h=>h.leaf) (fun me'=>ih me' D1) hpar hq hl at_.pa ⟨at_.base,at_.newB,at_.bnd⟩ r1
    | _=>exact no h
   | false=>
    rw [hf] at h
    refine obind h fun D1 hD h=>oif h fun hlen h=>?_
    obtain ⟨fA,hg,fit⟩:=ok.dfs me f D1 hD hf
    exact .mk (.g hg) (fun_def ok.hlim fit rfl (ih me D1) hlen h)
  ·refine obind (show callDf (glOf T (oracle T n).call (oracle T n).meth) (lookN m T.meths) args=some d from h) fun D1 hD h=>oif h fun hlen h=>?_
   obtain ⟨fA,fit,hget⟩:=ok.meths me m D1 hD
   exact ⟨fA,fun_def ok.hlim fit rfl (ih me D1) hlen h,fun A X s x mA pl Q E at_=>hget A s x mA pl Q E at_.pa.leaf at_.base⟩
end
end Mine.V
namespace Mine.V
open PySem PySem.W PyProof.Rows
noncomputable abbrev lawP:Program:=PySem.Challenge.pw_sr0089_02
noncomputable def n_OP:Nm:=nm "OP"
noncomputable def n_NT:Nm:=nm "NT_OFFSET"
noncomputable def n_EM:Nm:=nm "ENDMARKER"
noncomputable def n_varint:Nm:=nm "_parse_varint"
noncomputable def constOf:Expr → Option PV
 | .Constant c _ _=>constP c
 | .Name x _=>none
 | _=>none
noncomputable def dictAt (x:Nm):List Stmt → List (Option Expr × Expr)
 | []=>[]
 | .Assign [.Name y _] (.Dict ks vs _) _ :: r=>bif nmEq (nm y) x then ks.zip vs else dictAt x r
 | _ :: r=>dictAt x r
noncomputable def intAt (x:Nm):List Stmt → Option Int
 | []=>none
 | .Assign [.Name y _] (.Constant (.int i) _ _) _ :: r=>bif nmEq (nm y) x then some i else intAt x r
 | _ :: r=>intAt x r
noncomputable def tabI (i:Int):List (Option Expr × Expr) → Option (List Nat)
 | (some (.Constant (.int k) _ _),.Constant (.str s) _ _) :: r=>bif k == i then some s.cps.toList else tabI i r
 | _=>none
noncomputable def tabS (s:List Nat):List (Option Expr × Expr) → Option Int
 | (some (.Constant (.str k) _ _),.Name x _) :: r=>bif nmEq k.cps.toList s then intAt (nm x) lawP.main.body else tabS s r
 | _=>none
noncomputable def tabB (i:Int):Option (Option (List Nat)):=match i with
 | .ofNat c=>bif decide (119808 ≤ c) then (bif decide ((c - 119808) % 52 < 26) && [0,1,2,4,7,8,9,10,11,12].any (((c - 119808) / 52) == ·) then some (some [97 + (c - 119808) % 52]) else none)
  else bif decide (c < 128) then some none else none
 | _=>none
noncomputable def flD:List (Option Expr × Expr):=dictAt n_COMPILER_FLAG_NAMES lawP.main.body
noncomputable def exD:List (Option Expr × Expr):=dictAt n_EXACT_TOKEN_TYPES lawP.main.body
noncomputable def tableT (t:Nm):PV → Option (Option PV)
 | .int i=>bif nmEq t n_b3_exceptions then (tabB i).map (fun o=>o.map .str) else bif nmEq t n_COMPILER_FLAG_NAMES then some ((tabI i flD).map .str) else none
 | .str s=>bif nmEq t n_EXACT_TOKEN_TYPES then some ((tabS s exD).map .int) else none
 | _=>none
noncomputable def b1L:List Int:=[173,847,6150,6155,6156,6157,8203,8204,8205,8288,65279]
noncomputable def inB1 (i:Int):Bool:=b1L.any (i == ·) || (decide (65024 ≤ i) && decide (i < 65040))
noncomputable def vGo:Nat → Int → Int → List PV → Option (PV × List PV)
 | 0,_,_,_=>none
 | n + 1,val,b,l=>bif Builtin.bitAnd b 64 == 0 then some (.int val,l) else match l with
  | .int c :: r=>bif decide (val.natAbs < 2 ^ 64) then vGo n (Builtin.bitOr (val * 64) (Builtin.bitAnd c 63)) c r else none
  | _=>none
noncomputable def vStart:List PV → Option (PV × List PV)
 | .int b :: r=>vGo 200 (Builtin.bitAnd b 63) b r
 | _=>none
noncomputable def T2:Tx:=
 {dfs:=dfsOf lawP.main.body,cls:=n_Whitespace,meths:=(lookN n_Whitespace (clsOf lawP.main.body)).getD [],
  const:=fun x=>bif nmEq x n_NT then some (.int 256) else bif nmEq x n_OP then some (.int 55) else bif nmEq x n_EM then some (.int 0) else none
  cattr:=fun c a=>bif nmEq c n_Whitespace then (bif nmEq a n_S then some (.str [32]) else bif nmEq a n_T then some (.str [9]) else none) else none
  table:=tableT
  inSet:=fun s d=>match d with
   | .int i=>bif nmEq s n_b1_set then some (inB1 i) else none
   | _=>none
  fld:=fun x=>memN x [nm "raw",nm "n",nm "nt",nm "norm",nm "is_simple"]
  icall:=fun f xs=>bif nmEq f n_varint then vStart xs else none
  fuel:=200 }
noncomputable abbrev O (n:Nat):Oracle:=oracle T2 n
noncomputable def df (f:Nm):Df:=match lookN f T2.dfs with
 | some D=>D
 | none=>⟨default,[],[],[]⟩
noncomputable def mdf (f:Nm):Df:=match lookN f T2.meths with
 | some D=>D
 | none=>⟨default,[],[],[]⟩
noncomputable abbrev GD (c m:Nm → List PV → Option PV) (D:Df):Gl:=glOf T2 c m D
noncomputable def mrg (s c:Nm → List PV → Option PV):Nm → List PV → Option PV:=fun f a=>match s f a with
 | some d=>some d
 | none=>c f a
theorem mrg_eq {s c:Nm → List PV → Option PV} (h:∀ f a d,s f a=some d → c f a=some d):mrg s c=c:=by
 funext f a
 unfold mrg
 cases e:s f a with
 | none=>rfl
 | some d=>exact (h f a d e).symm
theorem call_def {n:Nat} {f:Nm} {D:Df} {args:List PV} {d:PV} (hf:nmEq f T2.cls=false) (hl:lookN f T2.dfs=some D) (hn:(D.params.length == args.length)=true)
  (h:retOf (exs (GD (O n).call (O n).meth D) D.body (zipArgs D.params args))=some d):(O (n + 1)).call f args=some d:=by
 show (bif nmEq f T2.cls then _ else callDf _ (lookN f T2.dfs) args)=_
 rw [hf,hl]
 show (bif D.params.length == args.length then _ else _)=_
 rw [hn]
 exact h
theorem call_meth {n:Nat} {f:Nm} {D:Df} {args:List PV} {d:PV} (hl:lookN f T2.meths=some D) (hn:(D.params.length == args.length)=true)
  (h:retOf (exs (GD (O n).call (O n).meth D) D.body (zipArgs D.params args))=some d):(O (n + 1)).meth f args=some d:=by
 show callDf _ (lookN f T2.meths) args=_
 rw [hl]
 show (bif D.params.length == args.length then _ else _)=_
 rw [hn]
 exact h
noncomputable def n_numbers:Nm:=nm "_law_numbers"
noncomputable def n_lead:Nm:=nm "_law_lead"
noncomputable def n_columns:Nm:=nm "_law_columns"
noncomputable def n_farther:Nm:=nm "_law_farther"
noncomputable def n_ups:Nm:=nm "_law_ups"
noncomputable def n_unseen:Nm:=nm "_law_unseen"
noncomputable def n_operator:Nm:=nm "_law_operator"
noncomputable def n_spelled:Nm:=nm "_law_spelled"
noncomputable def n_page:Nm:=nm "_law_page"
noncomputable def n_octets:Nm:=nm "_law_octets"
noncomputable def n_read:Nm:=nm "_law_read"
noncomputable def n_sides:Nm:=nm "_law_sides"
noncomputable def n_truth:Nm:=nm "_law_truth"
noncomputable def n_words:Nm:=nm "_law_words"
noncomputable def n_least:Nm:=nm "_law_least"
noncomputable def n_bars:Nm:=nm "_law_bars"
noncomputable def n_law:Nm:=nm "law"
noncomputable def n_pf:Nm:=nm "pretty_flags"
noncomputable def n_b1:Nm:=nm "in_table_b1"
noncomputable def n_b3:Nm:=nm "map_table_b3"
noncomputable def n_ISEOF:Nm:=nm "ISEOF"
noncomputable def n_IST:Nm:=nm "ISTERMINAL"
noncomputable def n_ISN:Nm:=nm "ISNONTERMINAL"
noncomputable abbrev retR (o:Option EV) (σ:Sg):Rs:=retV o σ
noncomputable abbrev seqR (o:Rs) (k:Sg → Rs):Rs:=thenS o k
noncomputable def endR (o:Option EV) (σ:Sg):Option PV:=retOf (seqR (retR o σ) fun σ=>some (.next,σ))
theorem oneO_v (d:PV):oneO (some (.v d))=some [d]:=rfl
theorem endR_some (d:PV) (σ:Sg):endR (some (.v d)) σ=some d:=rfl
theorem atI_of {α:Type} {xs:List α} {i:Int} {x:α} (h0:0 ≤ i) (h1:i ≤ 16777216) (h:xs[i.toNat]?=some x):atI xs i=some x:=by
 unfold atI
 have a:decide (i.natAbs ≤ 16777216)=true:=decide_eq_true (by omega)
 have b:decide (0 ≤ i)=true:=decide_eq_true h0
 rw [a,b]
 exact h
theorem fmod_lt (x:Int) {k:Int} (h:0 < k):0 ≤ x.fmod k ∧ x.fmod k < k:=⟨Int.fmod_nonneg_of_pos x h,Int.fmod_lt_of_pos x h⟩
theorem atI_mod {xs:List Int} {d k:Int} (h:0 < k) (hk:k ≤ 16777216) (hl:xs.length=k.toNat):atI (xs.map PV.int) (d.fmod k)=some (.int (xs.getD (d.fmod k).toNat 0)):=by
 obtain ⟨a,b⟩:=fmod_lt d h
 have hlt:(d.fmod k).toNat < xs.length:=by omega
 refine atI_of a (by omega) ?_
 rw [List.getElem?_map,List.getElem?_eq_getElem hlt]
 simp [List.getD,List.getElem?_eq_getElem hlt]
noncomputable def unT:List Int:=b1L ++ (List.range 16).map fun (k:Nat)=>(65024 + k:Int)
noncomputable def unS (d:Int):Int:=unT.getD (d.fmod 27).toNat 0
theorem unseen_eq (n:Nat) (d:Int):(O (n + 1)).call n_unseen [.int d]=some (.int (unS d)):=by
 have h:(O (n + 1)).call n_unseen [.int d]=endR ((atI (unT.map PV.int) (d.fmod 27)).map .v) [(nm "d",.fz (.int d))]:=by kernel_rfl
 rw [h,atI_mod (by decide) (by decide) (by decide +kernel)]
 rfl
noncomputable def opT:List (List Nat):=["(", ")", "[", "]", ":", ",", ";", "+", "-", "*", "/", "|", "&", "<", ">", "=", ".", "%", "{", "}", "==", "!=", "<=", ">=", "~", "^", "<<", ">>", "**", "+=", "-=", "*=", "/=", "%=", "&=", "|=", "^=", "<<=", ">>=", "**=", "//", "//=", "@", "@=", "->", "...", ":=", "!"].map fun s=>nm (PySem.Str.ofString s)
noncomputable def opS (d:Int):List Nat:=opT.getD (d.fmod 48).toNat []
theorem oper_eq (n:Nat) (d:Int):(O (n + 1)).call n_operator [.int d]=some (.str (opS d)):=by
 have h:(O (n + 1)).call n_operator [.int d]=endR ((atI (opT.map PV.str) (d.fmod 48)).map .v) [(nm "d",.fz (.int d))]:=by kernel_rfl
 obtain ⟨a,b⟩:=fmod_lt d (k:=48) (by decide)
 have hlt:(d.fmod 48).toNat < opT.length:=by rw [show opT.length=48 by rfl]; omega
 have h2:atI (opT.map PV.str) (d.fmod 48)=some (.str (opS d)):=by
  refine atI_of a (by exact Int.le_of_lt (Int.lt_of_lt_of_le b (by decide))) ?_
  rw [List.getElem?_map,List.getElem?_eq_getElem hlt]
  simp [opS,List.getD,List.getElem?_eq_getElem hlt]
 rw [h,h2]
 rfl
noncomputable def spT:List Int:=[97,65] ++ [0,1,2,4,7,8,9,10,11,12].map fun k=>119808 + 52 * k
noncomputable def spS (l d:Int):Int:=spT.getD (d.fmod 12).toNat 0 + l
theorem spelled_eq (n:Nat) (l d:Int):(O (n + 1)).call n_spelled [.int l,.int d]=some (.int (spS l d)):=by
 have h:(O (n + 1)).call n_spelled [.int l,.int d]=endR (binE .Add ((atI (spT.map PV.int) (d.fmod 12)).map EV.v) (some (EV.v (.int l)))) [(nm "letter",.fz (.int l)),(nm "d",.fz (.int d)),(nm "starts",.fz (.list (spT.map PV.int)))]:=by kernel_rfl
 rw [h,atI_mod (by decide) (by decide) (by decide)]
 rfl
theorem eof_eq (n:Nat) (x:Int):(O (n + 1)).call n_ISEOF [.int x]=some (.bool (x == 0)):=by kernel_rfl
theorem ist_eq (n:Nat) (x:Int):(O (n + 1)).call n_IST [.int x]=some (.bool (decide (x < 256))):=by kernel_rfl
theorem isn_eq (n:Nat) (x:Int):(O (n + 1)).call n_ISN [.int x]=some (.bool (decide (x ≥ 256))):=by kernel_rfl
theorem b1_eq (n:Nat) (c:Nat):(O (n + 1)).call n_b1 [.str [c]]=some (.bool (inB1 c)):=by kernel_rfl
noncomputable def sp1 (f:Nm):List PV → Option PV
 | [.int d]=>bif nmEq f n_unseen then some (.int (unS d)) else bif nmEq f n_operator then some (.str (opS d)) else bif nmEq f n_ISEOF then some (.bool (d == 0))
  else bif nmEq f n_IST then some (.bool (decide (d < 256))) else bif nmEq f n_ISN then some (.bool (decide (d ≥ 256))) else none
 | [.int l,.int d]=>bif nmEq f n_spelled then some (.int (spS l d)) else none
 | [.str [c]]=>bif nmEq f n_b1 then some (.bool (inB1 c)) else none
 | _=>none
theorem nmEq_e {a b:Nm} (h:nmEq a b=true):a=b:=by
 induction a generalizing b with
 | nil=>cases b <;> first | rfl | cases h
 | cons x a ih=>
  cases b with
  | nil=>cases h
  | cons y b=>
   have h:(x == y && nmEq a b)=true:=h
   simp only [Bool.and_eq_true,beq_iff_eq] at h
   rw [h.1,ih h.2]
theorem bif_some {α:Type} {c:Bool} {a:Option α} {b:Option α} {d:α} (h:(bif c then a else b)=some d):(c=true ∧ a=some d) ∨ (c=false ∧ b=some d):=by
 cases c
 ·exact .inr ⟨rfl,h⟩
 ·exact .inl ⟨rfl,h⟩
theorem sp1_ok (n:Nat):∀ f a d,sp1 f a=some d → (O (n + 1)).call f a=some d:=by
 intro f a d h
 unfold sp1 at h
 split at h
 ·rcases bif_some h with ⟨e,h⟩ | ⟨_,h⟩
  ·rw [nmEq_e e,unseen_eq]; exact h
  ·rcases bif_some h with ⟨e,h⟩ | ⟨_,h⟩
   ·rw [nmEq_e e,oper_eq]; exact h
   ·rcases bif_some h with ⟨e,h⟩ | ⟨_,h⟩
    ·rw [nmEq_e e,eof_eq]; exact h
    ·rcases bif_some h with ⟨e,h⟩ | ⟨_,h⟩
     ·rw [nmEq_e e,ist_eq]; exact h
     ·rcases bif_some h with ⟨e,h⟩ | ⟨_,h⟩
      ·rw [nmEq_e e,isn_eq]; exact h
      ·cases h
 ·rcases bif_some h with ⟨e,h⟩ | ⟨_,h⟩
  ·rw [nmEq_e e,spelled_eq]; exact h
  ·cases h
 ·rcases bif_some h with ⟨e,h⟩ | ⟨_,h⟩
  ·rw [nmEq_e e,b1_eq]; exact h
  ·cases h
 ·cases h
noncomputable def hdS:List S → S
 | s :: _=>s
 | []=>.pass default
noncomputable def tlS:List S → List S
 | _ :: r=>r
 | []=>[]
noncomputable def stm (b:List S):Nat → S
 | 0=>hdS b
 | n + 1=>stm (tlS b) n
noncomputable def dropS (b:List S):Nat → List S
 | 0=>b
 | n + 1=>dropS (tlS b) n
noncomputable def itE:It → E
 | .val e=>e
 | .range _ es p=>.list es p
 | .zip _ es p=>.list es p
noncomputable def valS:S → E
 | .set _ _ e _=>e
 | .many _ _ _ e _=>e
 | .tup _ _ _ e _=>e
 | .attr _ _ _ _ e _=>e
 | .item _ _ _ _ e _=>e
 | .augN _ _ _ e _=>e
 | .augI _ _ _ _ _ e _=>e
 | .app _ _ _ e _ _=>e
 | .ret e _=>e
 | .for _ it _ _ _=>itE it
 | .ife t _ _ _=>t
 | .whl t _ _ _=>t
 | _=>.const .none 0 default
noncomputable def bodyS:S → List S
 | .for _ _ b _ _=>b
 | .ife _ b _ _=>b
 | .whl _ b _ _=>b
 | _=>[]
noncomputable def elseS:S → List S
 | .for _ _ _ b _=>b
 | .ife _ _ b _=>b
 | .whl _ _ b _=>b
 | _=>[]
noncomputable def tgtS:S → Tg
 | .for t _ _ _ _=>t
 | .tup xs k p _ _=>.tup xs k p
 | .set x p _ _=>.nm x p
 | _=>.nm [] default
noncomputable def gnE:Gn → E
 | .mk _ it _=>itE it
noncomputable def argsE:E → List E
 | .callB _ _ es _=>es
 | .callD _ _ es _=>es
 | .lrange _ _ es _ _=>es
 | .meth _ _ _ es _=>es
 | .get _ _ _ es _=>es
 | .list es _=>es
 | .tup es _ _=>es
 | .cmp l _ cs _=>l :: cs
 | .inS l _ _ _=>[l]
 | .bin l _ r _=>[l,r]
 | .comp e g gs _ _=>e :: gnE g :: gs.map gnE
 | .sub o i _=>[o,i]
 | .bool _ es _=>es
 | .neg e _=>[e]
 | .not e _=>[e]
 | .ite t a b _=>[t,a,b]
 | _=>[]
noncomputable def kid (i:Nat) (e:E):E:=match (argsE e)[i]? with
 | some e=>e
 | none=>e
noncomputable def scE:E → List (PySem.Str × NameKind)
 | .comp _ _ _ sc _=>sc.names
 | _=>[]
noncomputable def asgR (G:Gl) (x:Nm) (e:E) (σ:Sg) (o:Option EV):Rs:=nextR (o.bind fun d=>storeP G x e d σ)
noncomputable def mapT {α β:Type}:List α → (α → β) → List β
 | [],_=>[]
 | x :: r,f=>f x :: mapT r f
theorem mapT_eq {α β:Type} (f:α → β):∀ l:List α,mapT l f=l.map f
 | []=>rfl
 | x :: r=>by rw [mapT,mapT_eq f r]; rfl
theorem get_T {α:Type} {m i:Nat} {f g:Nat → α} (h:(List.range m).map f=mapT (List.range m) g) (hi:i < m):f i=g i:=by
 rw [mapT_eq] at h
 have:=congrArg (·[i]?) h
 simpa [List.getElem?_map,List.getElem?_range hi] using this
theorem get_M {α β:Type} {l:List β} {f g:β → α} (h:l.map f=mapT l g) {x:β} (hx:x ∈ l):f x=g x:=List.map_inj_left.mp (h.trans (mapT_eq g l)) x hx
theorem get_tab {α:Type} {m i:Nat} {f g:Nat → α} (h:(List.range m).map f=(List.range m).map g) (hi:i < m):f i=g i:=by
 have:=congrArg (·[i]?) h
 simpa [List.getElem?_map,List.getElem?_range hi] using this
theorem get_in {α β:Type} {l:List β} {f g:β → α} (h:l.map f=l.map g) {x:β} (hx:x ∈ l):f x=g x:=List.map_inj_left.mp h x hx
theorem compLoop_all {g:PV → Option (List PV)} {k:PV → PV}:∀ {xs:List PV},(∀ x ∈ xs,g x=some [k x]) → compLoop g xs=some (xs.map k)
 | [],_=>rfl
 | x :: r,h=>by
  have h1:=h x (.head _)
  have h2:=compLoop_all (xs:=r) fun y hy=>h y (.tail _ hy)
  simp only [compLoop,h1,h2,List.map_cons,List.singleton_append]
noncomputable def nuT:List Int:=[21168,397,1910,1370,10841,4328,399]
noncomputable def nuS (s:List Int):List Int:=s.take 7 ++ nuT.drop s.length
theorem numbers_tab (n:Nat) (f:Nat → Int):(List.range 64).map (fun m=>(O (n + 1)).call n_numbers [.list (((List.range m).map f).map .int)])=(List.range 64).map fun m=>some (.list ((nuS ((List.range m).map f)).map .int)):=by kernel_rfl
theorem numbers_eq (n:Nat) (s:List Int) (h:s.length ≤ 63):(O (n + 1)).call n_numbers [.list (s.map .int)]=some (.list ((nuS s).map .int)):=by
 have e:s=(List.range s.length).map fun i=>s.getD i 0:=by
  apply List.ext_getElem
  ·simp
  ·intro i h1 h2; simp [List.getD,h1]
 have:=get_tab (numbers_tab n fun i=>s.getD i 0) (i:=s.length) (by exact Nat.lt_succ_of_le h)
 simp only [← e] at this
 exact this
theorem nuS_len (s:List Int):(nuS s).length=7:=by
 have:nuT.length=7:=rfl
 unfold nuS
 rw [List.length_append,List.length_take,List.length_drop]
 omega
noncomputable def leB (n:Nat):List S:=(df n_lead).body
noncomputable def leG (n:Nat):Gl:=GD (O n).call (O n).meth (df n_lead)
noncomputable def mulF (c:Nat) (k:Int):Option EV:=(binP .Mult (.str [c]) (.int k)).map .v
noncomputable abbrev binR (op:Operator) (a b:Option EV):Option EV:=binE op a b
noncomputable def leadF (a b c d:Int):Option EV:=binR .Add (binR .Add (binR .Add (mulF 32 a) (mulF 9 b)) (mulF 32 c)) (mulF 9 d)
noncomputable def leadR (n:Nat) (x a b c d:Int):Option PV:=retOf (seqR (asgR (leG n) (nm "lead") (valS (stm (leB n) 0)) [(nm "x",.fz (.int x))] (leadF a b c d)) (exs (leG n) (dropS (leB n) 1)))
noncomputable def leadS (r:Nat):List Nat:=
 let l:=rep (r % 3) [32] ++ rep (r / 3 % 2) [9] ++ rep (r / 6 % 3) [32] ++ rep (r / 18 % 2) [9]
 bif nmEq l [] then [32] else l
theorem lead_step (n:Nat) (x:Int):(O (n + 1)).call n_lead [.int x]=leadR n x (x.fmod 3) ((x.fdiv 3).fmod 2) ((x.fdiv 6).fmod 3) ((x.fdiv 18).fmod 2):=by kernel_rfl
theorem lead_tab (n:Nat) (x:Int):(List.range 36).map (fun r=>leadR n x (r % 3:Nat) (r / 3 % 2:Nat) (r / 6 % 3:Nat) (r / 18 % 2:Nat))=(List.range 36).map fun r=>some (.str (leadS r)):=by kernel_rfl
noncomputable def r36 (x:Int):Nat:=(x.fmod 36).toNat
theorem r36_lt (x:Int):r36 x < 36:=by have:=fmod_lt x (k:=36) (by decide); unfold r36; omega
theorem dm (x m k j:Int) (hm:m ≠ 0):x % (m * (k * j)) / m % k=x / m % k:=by
 rw [Int.emod_def x (m * (k * j))]
 generalize x / (m * (k * j))=q
 rw [Int.mul_assoc m,Int.sub_eq_add_neg,← Int.mul_neg,Int.add_mul_ediv_left _ _ hm,Int.mul_assoc k,← Int.mul_neg,Int.add_mul_emod_self_left]
theorem r36_at (x:Int) (m k j:Nat) (hm:(m:Int) ≠ 0) (h:(m:Int) * (k * j)=36):(x.fdiv m).fmod k=((r36 x / m % k:Nat):Int):=by
 have e:(r36 x:Int)=x % 36:=by
  unfold r36
  rw [Int.fmod_eq_emod_of_nonneg _ (by decide)]
  exact Int.toNat_of_nonneg (Int.emod_nonneg _ (by decide))
 rw [Int.fdiv_eq_ediv_of_nonneg _ (Int.natCast_nonneg m),Int.fmod_eq_emod_of_nonneg _ (Int.natCast_nonneg k),← dm x m k j hm,h,← e]
 rfl
theorem lead_eq (n:Nat) (x:Int):(O (n + 1)).call n_lead [.int x]=some (.str (leadS (r36 x))):=by
 have h:=get_tab (lead_tab n x) (r36_lt x)
 have a1:=r36_at x 1 3 12 (by decide) rfl
 rw [Nat.div_one,show x.fdiv ((1:Nat):Int)=x from Int.fdiv_one x] at a1
 rw [lead_step,show x.fmod 3=_ from a1,show (x.fdiv 3).fmod 2=_ from r36_at x 3 2 6 (by decide) rfl,show (x.fdiv 6).fmod 3=_ from r36_at x 6 3 2 (by decide) rfl,show (x.fdiv 18).fmod 2=_ from r36_at x 18 2 1 (by decide) rfl]
 exact h
noncomputable def ld:Nat → List Nat
 | 0=>[]
 | r + 1=>leadS r
noncomputable def colS (s:List Nat):List Int:=s.foldl (fun t c=>(List.range 5).map fun k=>t.getD k 0 + (bif c == 9 then k + 1 - (t.getD k 0) % (k + 1) else 1)) [0,0,0,0,0]
noncomputable def cI (r k:Nat):Int:=(colS (ld r)).getD k 0
noncomputable def colL (c:Nat → Int):PV:=.list [.int (c 0),.int (c 1),.int (c 2),.int (c 3),.int (c 4)]
theorem columns_tab (n:Nat):(List.range 37).map (fun r=>(O (n + 1)).call n_columns [.str (ld r)])=(List.range 37).map fun r=>some (colL (cI r)):=by kernel_rfl
noncomputable def cR (o:Option PV):Option (List PV):=oneO (o.map EV.v)
noncomputable def seven {α:Type} (f:Nat → α):List α:=[f 0,f 1,f 2,f 3,f 4,f 5,f 6]
noncomputable def upto {α:Type} (m:Nat) (f:Nat → α):List α:=(List.range m).map f
noncomputable def faB:List S:=(df n_farther).body
noncomputable def faG (n:Nat):Gl:=GD (O n).call (O n).meth (df n_farther)
noncomputable def maxZ:Int → List Int → Int
 | m,[]=>m
 | m,x :: r=>maxZ (bif decide (m < x) then x else m) r
noncomputable def fB (u v:Nat → Int):Bool:=decide (maxZ (u 0 - v 0) [u 1 - v 1,u 2 - v 2,u 3 - v 3,u 4 - v 4] < 0)
noncomputable def dueV (b:Nat → Nat → Bool):PV:=.list (upto 7 fun i=>.list (upto i fun j=>.bool (b i j)))
theorem farther_step (n:Nat) (l:Nat → List Nat):(O (n + 1)).call n_farther [.list (seven fun i=>.str (l i))] =
  retOf (seqR (asgR (faG n) (nm "columns") (valS (stm faB 0)) [(nm "leads",.fz (.list (seven fun i=>.str (l i))))]
   ((compLoop (fun d=>cR ((O n).call n_columns [d])) (seven fun i=>.str (l i))).bind fun l=>mkV (.list l))) (exs (faG n) (dropS faB 1))):=by kernel_rfl
theorem farther_end (n:Nat) (L:Nat → PV) (c:Nat → Nat → Int):retOf (seqR (asgR (faG n) (nm "columns") (valS (stm faB 0)) [(nm "leads",.fz (.list (seven L)))]
   (some (.v (.list (seven fun i=>colL (c i)))))) (exs (faG n) (dropS faB 1)))=some (dueV fun i j=>fB (c j) (c i)):=by kernel_rfl
theorem columns_eq (n:Nat) {r:Nat} (h:r < 37):(O (n + 1)).call n_columns [.str (ld r)]=some (colL (cI r)):=get_tab (columns_tab n) h
theorem farther_eq (n:Nat) (r:Nat → Nat) (h:∀ i,r i < 37):(O (n + 2)).call n_farther [.list (seven fun i=>.str (ld (r i)))]=some (dueV fun i j=>fB (cI (r j)) (cI (r i))):=by
 rw [farther_step]
 have e:compLoop (fun d=>cR ((O (n + 1)).call n_columns [d])) (seven fun i=>.str (ld (r i)))=some (seven fun i=>colL (cI (r i))):=by
  simp only [seven,compLoop,columns_eq n (h _),cR,oneO_v,Option.map_some,List.cons_append,List.nil_append]
 rw [e]
 exact farther_end _ (fun i=>.str (ld (r i))) fun i=>cI (r i)
noncomputable def allB:Nat → List (List Bool)
 | 0=>[[]]
 | n + 1=>(allB n).map (false :: ·) ++ (allB n).map (true :: ·)
theorem mem_allB:∀ bs:List Bool,bs ∈ allB bs.length
 | []=>.head _
 | b :: bs=>by
  have:=mem_allB bs
  cases b <;> simp [allB,this]
noncomputable def upB (bs:List Bool):Int:=(List.range bs.length).foldl (fun m j=>bif bs.getD j false then (j:Int) else m) (-1)
noncomputable def upR (n:Nat) (d:PV):Option (List PV):=oneO (ev { GD (O n).call (O n).meth (df n_ups) with sc:=scE (valS (stm (df n_ups).body 0)) } (kid 0 (valS (stm (df n_ups).body 0))) [(nm "row",.fz d)])
theorem ups_step (n:Nat) (xs:List PV):(O (n + 1)).call n_ups [.list xs]=endR ((compLoop (upR n) xs).bind fun l=>mkV (.list l)) [(nm "answers",.fz (.list xs))]:=by kernel_rfl
theorem ups_tab (n:Nat):((upto 7 allB).flatten.map fun bs=>upR n (.list (bs.map .bool)))=(upto 7 allB).flatten.map fun bs=>some [.int (upB bs)]:=by kernel_rfl
theorem upR_eq (n:Nat) {bs:List Bool} (h:bs.length < 7):upR n (.list (bs.map .bool))=some [.int (upB bs)]:=by
 refine get_in (ups_tab n) (x:=bs) ?_
 rw [List.mem_flatten]
 refine ⟨allB bs.length,?_,mem_allB bs⟩
 unfold upto
 exact List.mem_map.mpr ⟨_,List.mem_range.mpr h,rfl⟩
noncomputable def upsI (b:Nat → Nat → Bool) (i:Nat):Int:=upB (upto i fun j=>b i j)
theorem ups_eq (n:Nat) (b:Nat → Nat → Bool):(O (n + 1)).call n_ups [dueV b]=some (.list (upto 7 fun i=>.int (upsI b i))):=by
 unfold dueV
 rw [ups_step]
 have e:compLoop (upR n) (upto 7 fun i=>PV.list (upto i fun j=>.bool (b i j)))=some (upto 7 fun i=>.int (upsI b i)):=by
  have:=compLoop_all (g:=upR n) (k:=fun d=>match d with | .list l=>.int (upB (l.map fun x=>match x with | .bool b=>b | _=>false)) | _=>.none) (xs:=upto 7 fun i=>PV.list (upto i fun j=>.bool (b i j))) ?_
  ·rw [this]
   simp [upto,upsI,Function.comp_def]
  ·intro x hx
   unfold upto at hx
   obtain ⟨i,hi,rfl⟩:=List.mem_map.mp hx
   have hi:=List.mem_range.mp hi
   have:=upR_eq n (bs:=upto i fun j=>b i j) (by simp [upto]; exact hi)
   simp only [upto,List.map_map,Function.comp_def] at this ⊢
   rw [this]
 rw [e]
 rfl
noncomputable def isCons:List S → Bool
 | _ :: _=>true
 | []=>false
theorem xs_at {G:Gl} {σ σ':Sg}:∀ (i:Nat) {b:List S},isCons (dropS b i)=true → ex G (stm b i) σ=some (.next,σ') → exs G (dropS b i) σ=exs G (dropS b (i + 1)) σ'
 | 0,s :: r,_,h=>by
  have h:ex G s σ=some (.next,σ'):=h
  show thenS (ex G s σ) (exs G r)=exs G r σ'
  rw [h]; rfl
 | i + 1,b,hc,h=>xs_at i (b:=tlS b) hc h
theorem xs_go {G:Gl} {σ:Sg} {r:Rs}:∀ (i:Nat) {b:List S},isCons (dropS b i)=true → ex G (stm b i) σ=r → (∀ σ',r ≠ some (.next,σ')) → exs G (dropS b i) σ=r
 | 0,s :: l,_,h,hn=>by
  have h:ex G s σ=r:=h
  show thenS (ex G s σ) (exs G l)=r
  rw [h]
  cases r with
  | none=>rfl
  | some q=>
   obtain ⟨f,σ₂⟩:=q
   cases f with
   | next=>exact absurd rfl (hn _)
   | _=>rfl
 | i + 1,b,hc,h,hn=>xs_go i (b:=tlS b) hc h hn
theorem xs_ret {G:Gl} {σ σ':Sg} {d:PV} (i:Nat) {b:List S} (hc:isCons (dropS b i)=true) (h:ex G (stm b i) σ=some (.ret d,σ')):exs G (dropS b i) σ=some (.ret d,σ'):=xs_go i hc h fun zz e=>by cases e
theorem small_of {n:Nat} (h:n ≤ 16777216):smallN n=true:=decide_eq_true h
noncomputable def augL (S:List PV) (o:Option EV) (f:List PV → Sg):Rs:=nextR ((valO o).bind fun b=>(asL b).bind fun ys=>(catN S ys).map f)
theorem augL_ok {S ys:List PV} {f:List PV → Sg} (h:S.length + ys.length ≤ 16777216):augL S (some (.v (.list ys))) f=some (.next,f (S ++ ys)):=by
 show nextR ((bif smallN (S.length + ys.length) then some (S ++ ys) else none).map f)=_
 rw [small_of h]; rfl
noncomputable def appL (S:List PV) (o:Option EV) (f:List PV → Sg):Rs:=nextR ((valO o).bind fun d=>bif smallN (S.length + 1) then some (f (S ++ [d])) else none)
theorem appL_ok {S:List PV} {d:PV} {f:List PV → Sg} (h:S.length + 1 ≤ 16777216):appL S (some (.v d)) f=some (.next,f (S ++ [d])):=by
 show nextR (bif smallN (S.length + 1) then some (f (S ++ [d])) else none)=_
 rw [small_of h]; rfl
noncomputable def cE (G:Gl) (e:E) (x:Nm) (σ:Sg) (d:PV):Option (List PV):=oneO (ev { G with sc:=scE e } (kid 0 e) (putN x (.fz d) σ))
section
variable (c m:Nm → List PV → Option PV)
noncomputable def paB:List S:=(df n_page).body
noncomputable abbrev paG:Gl:=GD (mrg sp1 c) m (df n_page)
noncomputable def sumZ:Int → List Int → Int
 | m,[]=>m
 | m,x :: r=>sumZ (m + x) r
noncomputable def inU (u:Nat → Int) (i:Int):Bool:=(seven fun k=>PV.int (u k)).any fun y=>eqD y (.int i)
noncomputable def kindQ (b:Bool) (S i:Int):Option (List PV):=oneO (ifE (some b) (some (EV.v (.int (-1)))) (some (EV.v (.int ((S + i).fmod 26)))))
noncomputable def kd (p u:Nat → Int) (i:Int):Int:=bif inU u i then -1 else (sumZ 0 (seven p) + i).fmod 26
noncomputable abbrev st0 (p u:Nat → Int) (l:Nat → List Nat):Sg:=[(nm "parts",.fz (.list (seven fun i=>.int (p i)))),(nm "leads",.fz (.list (seven fun i=>.str (l i)))),(nm "ups",.fz (.list (seven fun i=>.int (u i))))]
noncomputable abbrev st3 (p u k:Nat → Int) (l:Nat → List Nat) (S R:List PV):Sg:=st0 p u l ++ [(nm "symbols",.own S),(nm "rows",.own R),(nm "kinds",.fz (.list (seven fun i=>.int (k i))))]
noncomputable abbrev st4 (p u k:Nat → Int) (l:Nat → List Nat) (S R:List PV) (la:List Nat) (d t:Int):Sg:=st3 p u k l S R ++ [(nm "lead",.fz (.str la)),(nm "d",.fz (.int d)),(nm "letter",.fz (.int t))]
theorem page_01 (p u:Nat → Int) (l:Nat → List Nat):exs (paG c m) paB (st0 p u l)=exs (paG c m) (dropS paB 2) (st0 p u l ++ [(nm "symbols",.own []),(nm "rows",.own [])]):=by
 refine (xs_at (b:=paB) 0 (by kernel_rfl) (?_:_=some (Fl.next,st0 p u l ++ [(nm "symbols",.own [])]))).trans (xs_at 1 (by kernel_rfl) ?_) <;> kernel_rfl
theorem page_2 (p u:Nat → Int) (l:Nat → List Nat) (σ:Sg):ev (paG c m) (valS (stm paB 2)) (st0 p u l ++ [(nm "symbols",.own []),(nm "rows",.own [])]) =
  (compLoop (cE (paG c m) (valS (stm paB 2)) (nm "i") [(nm "parts",.fz (.list (seven fun i=>.int (p i)))),(nm "ups",.fz (.list (seven fun i=>.int (u i))))]) (seven fun i=>.int i)).bind fun l=>mkV (.list l):=by kernel_rfl
theorem page_2e (p u:Nat → Int) (i:Int):cE (paG c m) (valS (stm paB 2)) (nm "i") [(nm "parts",.fz (.list (seven fun i=>.int (p i)))),(nm "ups",.fz (.list (seven fun i=>.int (u i))))] (.int i)=kindQ (inU u i) (sumZ 0 (seven p)) i:=by kernel_rfl
theorem page_2v (p u:Nat → Int) (l:Nat → List Nat):ex (paG c m) (stm paB 2) (st0 p u l ++ [(nm "symbols",.own []),(nm "rows",.own [])])=some (.next,st3 p u (fun i=>kd p u i) l [] []):=by
 have h:ex (paG c m) (stm paB 2) (st0 p u l ++ [(nm "symbols",.own []),(nm "rows",.own [])])=asgR (paG c m) (nm "kinds") (valS (stm paB 2)) (st0 p u l ++ [(nm "symbols",.own []),(nm "rows",.own [])]) (ev (paG c m) (valS (stm paB 2)) (st0 p u l ++ [(nm "symbols",.own []),(nm "rows",.own [])])):=by kernel_rfl
 rw [h,page_2 c m p u l []]
 have e:∀ i:Int,kindQ (inU u i) (sumZ 0 (seven p)) i=some [.int (kd p u i)]:=fun i=>by
  unfold kd; cases inU u i <;> rfl
 have e2:compLoop (cE (paG c m) (valS (stm paB 2)) (nm "i") [(nm "parts",.fz (.list (seven fun i=>.int (p i)))),(nm "ups",.fz (.list (seven fun i=>.int (u i))))]) (seven fun i=>.int i)=some (seven fun i=>.int (kd p u i)):=by
  simp only [seven,compLoop,List.cons_append,List.nil_append]
  have:=fun i:Int=>(page_2e c m p u i).trans (e i)
  simp only [seven] at this
  simp only [this,List.cons_append,List.nil_append]
 rw [e2]
 kernel_rfl
theorem page_3 (p u k:Nat → Int) (l:Nat → List Nat):ex (paG c m) (stm paB 3) (st3 p u k l [] [])=forLoop (paG c m).sc (tgtS (stm paB 3)) (exs (paG c m) (bodyS (stm paB 3))) (exs (paG c m) (elseS (stm paB 3))) (seven fun i=>.tuple [.str (l i),.int (p i),.int (k i)]) (st3 p u k l [] []):=by kernel_rfl
theorem page_4 (p u k:Nat → Int) (l:Nat → List Nat) (S R:List PV) (la:List Nat) (d t:Int):ex (paG c m) (stm paB 4) (st4 p u k l S R la d t) =
  retR ((eachV [binR .Add (some (.v (.list S))) (some (.v (.list [.int 0]))),some (.v (.list R)),some (.v (.list (seven fun i=>.int (k i))))]).bind fun l=>mkV (.tuple l)) (st4 p u k l S R la d t):=by kernel_rfl
noncomputable def pbB:List S:=bodyS (stm paB 3)
noncomputable def syA (r:Nat) (d:Int):List Int:=[255 - d.fmod 200,256 + unS (d.fdiv 12)] ++ (ld r).map fun (c:Nat)=>(256 + c:Int)
theorem row_0 (p u k:Nat → Int) (l:Nat → List Nat) (S R:List PV) (d t:Int):(List.range 37).map (fun r=>ex (paG c m) (stm pbB 0) (st4 p u k l S R (ld r) d t)) =
  (List.range 37).map fun r=>augL S (some (.v (.list ((syA r d).map .int)))) fun S=>st4 p u k l S R (ld r) d t:=by kernel_rfl
theorem row_1 (p u k:Nat → Int) (l:Nat → List Nat) (S R:List PV) (la:List Nat) (d t:Int):ex (paG c m) (stm pbB 1) (st4 p u k l S R la d t) =
  ifS (some (decide (t < 0))) (exs (paG c m) (bodyS (stm pbB 1)) (st4 p u k l S R la d t)) (exs (paG c m) (elseS (stm pbB 1)) (st4 p u k l S R la d t)):=by kernel_rfl
theorem row_10 (p u k:Nat → Int) (l:Nat → List Nat) (S R:List PV) (la:List Nat) (d t:Int):ex (paG c m) (stm (bodyS (stm pbB 1)) 0) (st4 p u k l S R la d t) =
  augL S ((eachV [((tabS (opS d) exD).map PV.int).map EV.v,some (.v (.int 256))]).bind fun l=>mkV (.list l)) fun S=>st4 p u k l S R la d t:=by kernel_rfl
theorem row_11 (p u k:Nat → Int) (l:Nat → List Nat) (S R:List PV) (la:List Nat) (d t:Int):ex (paG c m) (stm (bodyS (stm pbB 1)) 1) (st4 p u k l S R la d t) =
  appL R (some (.v (.tuple [.str la,.int (7 + d.fmod 48)]))) fun R=>st4 p u k l S R la d t:=by kernel_rfl
theorem row_20 (p u k:Nat → Int) (l:Nat → List Nat) (S R:List PV) (la:List Nat) (d t:Int):ex (paG c m) (stm (elseS (stm pbB 1)) 0) (st4 p u k l S R la d t) =
  augL S (some (.v (.list [.int (256 + spS t d),.int 256]))) fun S=>st4 p u k l S R la d t:=by kernel_rfl
noncomputable def abc:List Nat:=(List.range 26).map (97 + ·)
theorem row_21 (p u k:Nat → Int) (l:Nat → List Nat) (S R:List PV) (la:List Nat) (d t:Int):ex (paG c m) (stm (elseS (stm pbB 1)) 1) (st4 p u k l S R la d t) =
  appL R ((eachV [binR .Add (some (.v (.str la))) ((atI abc t).map fun c=>.v (.str [c])),some (.v (.int 0))]).bind fun l=>mkV (.tuple l)) fun R=>st4 p u k l S R la d t:=by kernel_rfl
theorem tok_tab:(List.range 48).map (fun r=>tabS (opT.getD r []) exD)=(List.range 48).map fun (r:Nat)=>some (7 + r:Int):=by kernel_rfl
noncomputable def syB (d t:Int):List Int:=bif decide (t < 0) then [7 + d.fmod 48,256] else [256 + spS t d,256]
noncomputable def rwP (r:Nat) (d t:Int):PV:=bif decide (t < 0) then .tuple [.str (ld r),.int (7 + d.fmod 48)] else .tuple [.str (ld r ++ [97 + t.toNat]),.int 0]
theorem ld_len:(List.range 37).all (fun r=>decide ((ld r).length ≤ 6))=true:=by decide +kernel
theorem ld_len' {r:Nat} (h:r < 37):(ld r).length ≤ 6:=of_decide_eq_true (List.all_eq_true.mp ld_len r (List.mem_range.mpr h))
theorem opS_tab (d:Int):tabS (opS d) exD=some (7 + d.fmod 48):=by
 obtain ⟨a,b⟩:=fmod_lt d (k:=48) (by decide)
 have:=get_tab tok_tab (i:=(d.fmod 48).toNat) (by omega)
 unfold opS
 rw [this]
 congr 1; omega
theorem row_eq (p u k:Nat → Int) (l:Nat → List Nat) (S R:List PV) {r:Nat} (d t:Int) (hr:r < 37) (ht:t < 0 ∨ (0 ≤ t ∧ t < 26)) (hS:S.length ≤ 1000) (hR:R.length ≤ 1000) :
  exs (paG c m) pbB (st4 p u k l S R (ld r) d t)=some (.next,st4 p u k l (S ++ (syA r d ++ syB d t).map .int) (R ++ [rwP r d t]) (ld r) d t):=by
 have hA:((syA r d).map PV.int).length ≤ 8:=by
  have:=ld_len' hr
  simp [syA]; exact this
 refine (xs_at (b:=pbB) 0 (by kernel_rfl) ((get_tab (row_0 c m p u k l S R d t) hr).trans (augL_ok (by omega)))).trans ?_
 have key:ex (paG c m) (stm pbB 1) (st4 p u k l (S ++ (syA r d).map .int) R (ld r) d t)=some (.next,st4 p u k l (S ++ (syA r d ++ syB d t).map .int) (R ++ [rwP r d t]) (ld r) d t):=by
  rw [row_1]
  rcases ht with h | ⟨h0,h1⟩
  ·rw [decide_eq_true h]
   show exs (paG c m) (dropS (bodyS (stm pbB 1)) 0) _=_
   have e1:ex (paG c m) (stm (bodyS (stm pbB 1)) 0) (st4 p u k l (S ++ (syA r d).map .int) R (ld r) d t)=some (.next,st4 p u k l (S ++ (syA r d ++ syB d t).map .int) R (ld r) d t):=by
    rw [row_10,opS_tab]
    show augL _ (some (.v (.list [.int (7 + d.fmod 48),.int 256]))) _=_
    rw [augL_ok (by simp only [List.length_append,List.length_cons,List.length_nil]; omega)]
    simp only [syB,decide_eq_true h,cond_true,List.map_append,List.append_assoc,List.map_cons,List.map_nil]
   refine (xs_at 0 (by kernel_rfl) e1).trans ((xs_at 1 (by kernel_rfl) ((row_11 c m p u k l _ R (ld r) d t).trans (appL_ok (by exact Nat.lt_of_le_of_lt hR (by decide))))).trans ?_)
   simp only [rwP,decide_eq_true h,cond_true]
   kernel_rfl
  ·have hn:¬ t < 0:=by exact Int.not_lt.mpr h0
   rw [decide_eq_false hn]
   show exs (paG c m) (dropS (elseS (stm pbB 1)) 0) _=_
   have e1:ex (paG c m) (stm (elseS (stm pbB 1)) 0) (st4 p u k l (S ++ (syA r d).map .int) R (ld r) d t)=some (.next,st4 p u k l (S ++ (syA r d ++ syB d t).map .int) R (ld r) d t):=by
    rw [row_20,augL_ok (by simp only [List.length_append,List.length_cons,List.length_nil]; omega)]
    simp only [syB,decide_eq_false hn,cond_false,List.map_append,List.append_assoc,List.map_cons,List.map_nil]
   have hc:atI abc t=some (97 + t.toNat):=by
    refine atI_of h0 (by exact Int.le_of_lt (Int.lt_of_lt_of_le h1 (by decide))) ?_
    unfold abc
    rw [List.getElem?_map,List.getElem?_range (by omega)]
    rfl
   have e2:ex (paG c m) (stm (elseS (stm pbB 1)) 1) (st4 p u k l (S ++ (syA r d ++ syB d t).map .int) R (ld r) d t)=some (.next,st4 p u k l (S ++ (syA r d ++ syB d t).map .int) (R ++ [rwP r d t]) (ld r) d t):=by
    rw [row_21,hc]
    show appL R ((eachV [((bif smallN ((ld r).length + [97 + t.toNat].length) then some (ld r ++ [97 + t.toNat]) else none).map PV.str).map EV.v,some (.v (.int 0))]).bind fun l=>mkV (.tuple l)) _=_
    rw [small_of (by have:=ld_len' hr; simp only [List.length_cons,List.length_nil]; exact Nat.lt_of_le_of_lt this (by decide))]
    refine (appL_ok (d:=.tuple [.str (ld r ++ [97 + t.toNat]),.int 0]) (by exact Nat.lt_of_le_of_lt hR (by decide))).trans ?_
    simp only [rwP,decide_eq_false hn,cond_false]
   refine (xs_at 0 (by kernel_rfl) e1).trans ((xs_at 1 (by kernel_rfl) e2).trans ?_)
   kernel_rfl
 refine (xs_at (b:=pbB) 1 (by kernel_rfl) key).trans ?_
 kernel_rfl
theorem bind_3 (p u k:Nat → Int) (l:Nat → List Nat) (S R:List PV) (la:List Nat) (d t:Int):bindT (paG c m).sc (tgtS (stm paB 3)) (.tuple [.str la,.int d,.int t]) (st3 p u k l S R)=some (st4 p u k l S R la d t):=by kernel_rfl
theorem bind_4 (p u k:Nat → Int) (l:Nat → List Nat) (S R:List PV) (la la':List Nat) (d t d' t':Int):bindT (paG c m).sc (tgtS (stm paB 3)) (.tuple [.str la,.int d,.int t]) (st4 p u k l S R la' d' t')=some (st4 p u k l S R la d t):=by kernel_rfl
noncomputable def sysP (r:Nat → Nat) (p k:Nat → Int) (is:List Nat):List Int:=is.flatMap fun i=>syA (r i) (p i) ++ syB (p i) (k i)
theorem page_loop (u k p:Nat → Int) (r:Nat → Nat) (hr:∀ i,r i < 37) (hk:∀ i,k i < 0 ∨ (0 ≤ k i ∧ k i < 26)):∀ (is:List Nat) (S R:List PV) (la:List Nat) (d t:Int),S.length + 10 * is.length ≤ 1000 → R.length + is.length ≤ 1000 →
  ∃ la' d' t',forLoop (paG c m).sc (tgtS (stm paB 3)) (exs (paG c m) pbB) (exs (paG c m) (elseS (stm paB 3))) (is.map fun i=>.tuple [.str (ld (r i)),.int (p i),.int (k i)]) (st4 p u k (fun i=>ld (r i)) S R la d t) =
   some (.next,st4 p u k (fun i=>ld (r i)) (S ++ (sysP r p k is).map .int) (R ++ is.map fun i=>rwP (r i) (p i) (k i)) la' d' t')
 | [],S,R,la,d,t,_,_=>⟨la,d,t,by
   simp only [List.map_nil,sysP,List.flatMap_nil,List.append_nil]
   kernel_rfl⟩
 | i :: is,S,R,la,d,t,h1,h2=>by
  have hl:((syA (r i) (p i) ++ syB (p i) (k i)).map PV.int).length ≤ 10:=by
   have:=ld_len' (hr i)
   have e:(syB (p i) (k i)).length=2:=by unfold syB; cases decide (k i < 0) <;> rfl
   simp [syA,e]; exact this
  simp only [List.length_cons] at h1 h2
  obtain ⟨la',d',t',ih⟩:=page_loop u k p r hr hk is (S ++ (syA (r i) (p i) ++ syB (p i) (k i)).map .int) (R ++ [rwP (r i) (p i) (k i)]) (ld (r i)) (p i) (k i) (by rw [List.length_append]; omega) (by rw [List.length_append,List.length_singleton]; omega)
  refine ⟨la',d',t',?_⟩
  rw [List.map_cons,forLoop,bind_4]
  simp only
  rw [row_eq c m p u k (fun i=>ld (r i)) S R (p i) (k i) (hr i) (hk i) (by exact Nat.le_trans (Nat.le_add_right _ _) h1) (by exact Nat.le_trans (Nat.le_add_right _ _) h2)]
  simp only
  rw [ih]
  simp only [sysP,List.flatMap_cons,List.map_append,List.append_assoc,List.map_cons,List.singleton_append]
end
theorem inU_range (p u:Nat → Int) (i:Int):kd p u i < 0 ∨ (0 ≤ kd p u i ∧ kd p u i < 26):=by
 unfold kd
 cases inU u i
 ·exact .inr (fmod_lt _ (by decide))
 ·exact .inl (by show (-1:Int) < 0; decide)
noncomputable def is7:List Nat:=[0,1,2,3,4,5,6]
noncomputable def pageV (r:Nat → Nat) (p k:Nat → Int):PV:=.tuple [.list ((sysP r p k is7 ++ [0]).map .int),.list (is7.map fun i=>rwP (r i) (p i) (k i)),.list (seven fun i=>.int (k i))]
theorem sysP_len (r:Nat → Nat) (p k:Nat → Int) (hr:∀ i,r i < 37):∀ is:List Nat,(sysP r p k is).length ≤ 10 * is.length
 | []=>Nat.le_refl _
 | i :: is=>by
  have:=sysP_len r p k hr is
  have h1:(syA (r i) (p i)).length ≤ 8:=by
   have:=ld_len' (hr i)
   simp [syA]; exact this
  have e:(syB (p i) (k i)).length=2:=by unfold syB; cases decide (k i < 0) <;> rfl
  simp only [sysP,List.flatMap_cons,List.length_append,List.length_cons,e] at this ⊢
  omega
theorem add_v (S L:List PV):binR .Add (some (.v (.list S))) (some (.v (.list L)))=((catN S L).map PV.list).map EV.v:=rfl
theorem catN_of {α:Type} {x y:List α} (h:x.length + y.length ≤ 16777216):catN x y=some (x ++ y):=by
 unfold catN
 rw [small_of h]
 rfl
theorem page_run (c m:Nm → List PV → Option PV) (p u:Nat → Int) (r:Nat → Nat) (hr:∀ i,r i < 37):retOf (exs (paG c m) paB (st0 p u fun i=>ld (r i)))=some (pageV r p fun i=>kd p u i):=by
 rw [page_01]
 rw [xs_at (b:=paB) 2 (by kernel_rfl) (page_2v c m p u fun i=>ld (r i))]
 have h3:∃ la d t,ex (paG c m) (stm paB 3) (st3 p u (fun i=>kd p u i) (fun i=>ld (r i)) [] [])=some (.next,st4 p u (fun i=>kd p u i) (fun i=>ld (r i)) ((sysP r p (fun i=>kd p u i) is7).map .int) (is7.map fun i=>rwP (r i) (p i) (kd p u i)) la d t):=by
  obtain ⟨la,d,t,h⟩:=page_loop c m u (fun i=>kd p u i) p r hr (fun i=>inU_range p u i) is7 [] [] (ld (r 0)) (p 0) (kd p u 0) (by decide) (by decide)
  refine ⟨la,d,t,?_⟩
  rw [page_3]
  refine Eq.trans ?_ h
  have e1:=bind_3 c m p u (fun i=>kd p u i) (fun i=>ld (r i)) [] [] (ld (r 0)) (p 0) (kd p u 0)
  have e2:=bind_4 c m p u (fun i=>kd p u i) (fun i=>ld (r i)) [] [] (ld (r 0)) (ld (r 0)) (p 0) (kd p u 0) (p 0) (kd p u 0)
  simp only [seven,is7,List.map_cons,List.map_nil]
  rw [forLoop,forLoop,show ((0:Nat):Int)=0 from rfl]
  rw [show (bindT (paG c m).sc (tgtS (stm paB 3)) (.tuple [.str (ld (r 0)),.int (p 0),.int (kd p u 0)]) (st3 p u (fun i=>kd p u i) (fun i=>ld (r i)) [] []))=_ from e1]
  rw [show (bindT (paG c m).sc (tgtS (stm paB 3)) (.tuple [.str (ld (r 0)),.int (p 0),.int (kd p u 0)]) (st4 p u (fun i=>kd p u i) (fun i=>ld (r i)) [] [] (ld (r 0)) (p 0) (kd p u 0)))=_ from e2]
  rfl
 obtain ⟨la,d,t,h3⟩:=h3
 rw [xs_at (b:=paB) 3 (by kernel_rfl) h3]
 rw [xs_ret (b:=paB) (d:=pageV r p fun i=>kd p u i) 4 (by kernel_rfl) (?_:_=some (Fl.ret _,st4 p u (fun i=>kd p u i) (fun i=>ld (r i)) ((sysP r p (fun i=>kd p u i) is7).map .int) (is7.map fun i=>rwP (r i) (p i) (kd p u i)) la d t))]
 ·rfl
 rw [page_4]
 rw [add_v,catN_of (by have:=sysP_len r p (fun i=>kd p u i) hr is7; rw [List.length_map]; have e:is7.length=7:=rfl; rw [e] at this; simp only [List.length_cons,List.length_nil]; exact Nat.lt_of_le_of_lt this (by decide))]
 unfold pageV
 rw [List.map_append]
 rfl
theorem page_eq (n:Nat) (p u:Nat → Int) (r:Nat → Nat) (hr:∀ i,r i < 37):(O (n + 2)).call n_page [.list (seven fun i=>.int (p i)),.list (seven fun i=>.str (ld (r i))),.list (seven fun i=>.int (u i))]=some (pageV r p fun i=>kd p u i):=by
 refine call_def (D:=df n_page) (by kernel_rfl) (by kernel_rfl) (by kernel_rfl) ?_
 rw [← mrg_eq (sp1_ok n)]
 have e:zipArgs (df n_page).params [.list (seven fun i=>.int (p i)),.list (seven fun i=>.str (ld (r i))),.list (seven fun i=>.int (u i))]=st0 p u fun i=>ld (r i):=by kernel_rfl
 rw [e]
 exact page_run _ _ p u r hr
theorem and_nat (a b:Nat):Builtin.bitAnd (a:Int) (b:Int)=((a &&& b:Nat):Int):=by
 unfold Builtin.bitAnd
 rw [decide_eq_true (Int.natCast_nonneg a),decide_eq_true (Int.natCast_nonneg b)]
 rfl
theorem or_nat (a b:Nat):Builtin.bitOr (a:Int) (b:Int)=((a ||| b:Nat):Int):=by
 have n (x:Nat):Builtin.bitNot (x:Int)=-(x:Int) - 1:=by unfold Builtin.bitNot; exact rfl
 unfold Builtin.bitOr Builtin.bitAnd
 rw [n,n,decide_eq_false (by omega),decide_eq_false (by omega)]
 have m (x:Nat):(Builtin.bitNot (-(x:Int) - 1)).toNat=x:=by unfold Builtin.bitNot; omega
 simp only [m]
 unfold Builtin.bitNot
 omega
theorem xor_nat (a b:Nat):Builtin.bitXor (a:Int) (b:Int)=((a ||| b:Nat):Int) - ((a &&& b:Nat):Int):=by
 unfold Builtin.bitXor; rw [or_nat,and_nat]
theorem fdiv_nat (a b:Nat):(a:Int).fdiv (b:Int)=((a / b:Nat):Int):=by
 rw [Int.fdiv_eq_ediv_of_nonneg _ (Int.natCast_nonneg b)]; rfl
theorem fmod_nat (a b:Nat):(a:Int).fmod (b:Int)=((a % b:Nat):Int):=by
 rw [Int.fmod_eq_emod_of_nonneg _ (Int.natCast_nonneg b)]; rfl
noncomputable def ocB:List S:=(df n_octets).body
noncomputable def obB:List S:=bodyS (stm ocB 1)
noncomputable def wB:List S:=bodyS (stm obB 1)
section
variable (c m:Nm → List PV → Option PV)
noncomputable abbrev ocG:Gl:=GD c m (df n_octets)
noncomputable abbrev so1 (Y:PV) (Q:List PV):Sg:=[(nm "symbols",.fz Y),(nm "octets",.own Q)]
noncomputable abbrev so2 (Y:PV) (Q:List PV) (x:Int) (D:List PV):Sg:=so1 Y Q ++ [(nm "x",.fz (.int x)),(nm "digits",.own D)]
theorem oct_0 (Y:PV):exs (ocG c m) ocB [(nm "symbols",.fz Y)]=exs (ocG c m) (dropS ocB 1) (so1 Y []):=xs_at (b:=ocB) 0 (by kernel_rfl) (by kernel_rfl)
theorem oct_1 (xs:List PV):ex (ocG c m) (stm ocB 1) (so1 (.list xs) [])=forLoop (ocG c m).sc (tgtS (stm ocB 1)) (exs (ocG c m) obB) (exs (ocG c m) (elseS (stm ocB 1))) xs (so1 (.list xs) []):=by kernel_rfl
theorem oct_2 (Y:PV) (Q:List PV) (x:Int) (D:List PV):ex (ocG c m) (stm ocB 2) (so2 Y Q x D)=retR ((bif smallN Q.length then (bytesP Q).map .bytes else none).bind mkV) (so2 Y Q x D):=by kernel_rfl
theorem oct_b1 (Y:PV) (Q:List PV) (x:Int):bindT (ocG c m).sc (tgtS (stm ocB 1)) (.int x) (so1 Y Q)=some (so1 Y Q ++ [(nm "x",.fz (.int x))]):=by kernel_rfl
theorem oct_b2 (Y:PV) (Q:List PV) (x y:Int) (D:List PV):bindT (ocG c m).sc (tgtS (stm ocB 1)) (.int x) (so2 Y Q y D)=some (so2 Y Q x D):=by kernel_rfl
theorem ob_0 (Y:PV) (Q:List PV) (x:Int):ex (ocG c m) (stm obB 0) (so1 Y Q ++ [(nm "x",.fz (.int x))])=some (.next,so2 Y Q x [.int (Builtin.bitAnd x 63)]):=by kernel_rfl
theorem ob_0' (Y:PV) (Q:List PV) (x:Int) (D:List PV):ex (ocG c m) (stm obB 0) (so2 Y Q x D)=some (.next,so2 Y Q x [.int (Builtin.bitAnd x 63)]):=by kernel_rfl
noncomputable def oT (G:Gl) (σ:Sg):Option Bool:=tr G (valS (stm obB 1)) σ (ev G (valS (stm obB 1)) σ)
theorem ob_1 (Y:PV) (Q:List PV) (x:Int) (D:List PV):ex (ocG c m) (stm obB 1) (so2 Y Q x D)=whileLoop (oT (ocG c m)) (exs (ocG c m) wB) (exs (ocG c m) (elseS (stm obB 1))) 200 (so2 Y Q x D):=by kernel_rfl
theorem oT_eq (Y:PV) (Q:List PV) (x:Int) (D:List PV):oT (ocG c m) (so2 Y Q x D)=some (decide (x > 63)):=by kernel_rfl
theorem w_0 (Y:PV) (Q:List PV) (x:Int) (D:List PV):ex (ocG c m) (stm wB 0) (so2 Y Q x D)=some (.next,so2 Y Q (x.fdiv 64) D):=by kernel_rfl
theorem w_1 (Y:PV) (Q:List PV) (x:Int) (D:List PV):ex (ocG c m) (stm wB 1) (so2 Y Q x D)=appL D (some (.v (.int (Builtin.bitOr (Builtin.bitAnd x 63) 64)))) fun D=>so2 Y Q x D:=by kernel_rfl
theorem w_eq (Y:PV) (Q:List PV) (x:Int) (D:List PV) (h:D.length ≤ 100):exs (ocG c m) wB (so2 Y Q x D)=some (.next,so2 Y Q (x.fdiv 64) (D ++ [.int (Builtin.bitOr (Builtin.bitAnd (x.fdiv 64) 63) 64)])):=by
 refine (xs_at (b:=wB) 0 (by kernel_rfl) (w_0 c m Y Q x D)).trans ((xs_at (b:=wB) 1 (by kernel_rfl) ((w_1 c m Y Q _ D).trans (appL_ok (by exact Nat.lt_of_le_of_lt h (by decide))))).trans ?_)
 kernel_rfl
noncomputable def digs:Nat → Nat → List Nat
 | 0,_=>[]
 | n + 1,x=>bif decide (x > 63) then ((x / 64) % 64 ||| 64) :: digs n (x / 64) else []
theorem mask (x:Nat):Builtin.bitAnd (x:Int) 63=((x % 64:Nat):Int):=by
 rw [show (63:Int)=((63:Nat):Int) from rfl,and_nat,Nat.and_two_pow_sub_one_eq_mod x 6]
theorem w_loop (Y:PV) (Q:List PV):∀ (n x:Nat) (D:List PV),x < 64 ^ (n + 1) → D.length + n ≤ 100 → ∀ N,n ≤ N → ∃ y:Int,whileLoop (oT (ocG c m)) (exs (ocG c m) wB) (exs (ocG c m) (elseS (stm obB 1))) (N + 1) (so2 Y Q x D)=some (.next,so2 Y Q y (D ++ (digs n x).map fun d=>.int (d:Nat)))
 | 0,x,D,h,hD,N,hN=>⟨x,by
  have:¬ ((x:Int) > 63):=by simp at h; omega
  rw [whileLoop,oT_eq,decide_eq_false this]
  simp only [digs,List.map_nil,List.append_nil]
  kernel_rfl⟩
 | n + 1,x,D,h,hD,N,hN=>by
  by_cases hx:x > 63
  ·obtain ⟨N,rfl⟩:∃ k,N=k + 1:=⟨N - 1,by omega⟩
   obtain ⟨y,ih⟩:=w_loop Y Q n (x / 64) (D ++ [.int ((x / 64 % 64 ||| 64:Nat))]) (by rw [Nat.pow_succ] at h; exact Nat.div_lt_of_lt_mul (by omega)) (by rw [List.length_append,List.length_singleton]; omega) N (by exact Nat.le_of_lt_succ hN)
   refine ⟨y,?_⟩
   rw [whileLoop,oT_eq,decide_eq_true (show (x:Int) > 63 by exact Int.ofNat_le.mpr hx)]
   simp only
   rw [w_eq c m Y Q x D (by exact Nat.le_trans (Nat.le_add_right _ _) hD)]
   simp only
   rw [show (x:Int).fdiv 64=((x / 64:Nat):Int) from fdiv_nat x 64,mask,show (64:Int)=((64:Nat):Int) from rfl,or_nat,ih]
   simp only [digs,decide_eq_true hx,cond_true,List.map_cons,List.append_assoc,List.singleton_append]
  ·refine ⟨x,?_⟩
   have:¬ ((x:Int) > 63):=by exact mt Int.ofNat_le.mp hx
   rw [whileLoop,oT_eq,decide_eq_false this]
   simp only [digs,decide_eq_false hx,cond_false,List.map_nil,List.append_nil]
   kernel_rfl
noncomputable def itR (o:Option EV):Option (List PV):=(valO o).bind itemsP
theorem itR_v (l:List PV):itR (some (.v (.list l)))=some l:=rfl
noncomputable def lcR (o:Option (List PV)) (f:List PV → Option (List PV)):Option EV:=o.bind fun xs=>(f xs).bind fun l=>mkV (.list l)
theorem lcR_v (l:List PV) (f:List PV → Option (List PV)):lcR (some l) f=(f l).bind fun l=>mkV (.list l):=rfl
theorem mkV_l {l:List PV} (h:l.length ≤ 16777216):mkV (.list l)=some (.v (.list l)):=by
 show (bif smallN l.length then _ else _)=_
 rw [small_of h]; rfl
theorem ob_2 (Y:PV) (Q:List PV) (x:Int) (D:List PV):ex (ocG c m) (stm obB 2) (so2 Y Q x D)=augL Q (lcR (itR (bif smallN D.length then (sliceP D none none (some (-1))).bind fun l=>mkV (.list l) else none)) (compLoop (cE (ocG c m) (valS (stm obB 2)) (nm "digit") [(nm "octets",.own Q)]))) fun Q=>so2 Y Q x D:=by kernel_rfl
noncomputable def octR (q:Option PV) (d:Int):Option (List PV):=oneO (binR .BitOr (some (.v (.int d))) (binR .Mult (some (.v (.int 128))) (binR .Mod (q.bind mkV) (some (.v (.int 2))))))
theorem ob_2e (Q:List PV) (d:Int):cE (ocG c m) (valS (stm obB 2)) (nm "digit") [(nm "octets",.own Q)] (.int d)=octR (bif smallN Q.length then some (.int Q.length) else none) d:=by kernel_rfl
theorem octR_eq (n:Nat) (h:n ≤ 1000) (d:Nat):octR (bif smallN n then some (.int n) else none) (d:Int)=some [.int ((d ||| 128 * (n % 2):Nat))]:=by
 rw [small_of (by exact Nat.le_trans h (by decide))]
 show oneO (binR .BitOr (some (.v (.int d))) (binR .Mult (some (.v (.int 128))) (some (.v (.int ((n:Int).fmod 2))))))=_
 rw [show (n:Int).fmod 2=((n % 2:Nat):Int) from fmod_nat n 2]
 have h2:n % 2=0 ∨ n % 2=1:=by omega
 rcases h2 with h2 | h2
 ·rw [h2]
  show some [PV.int (Builtin.bitOr (d:Int) ((0:Nat):Int))]=_
  rw [or_nat]
 ·rw [h2]
  show some [PV.int (Builtin.bitOr (d:Int) ((128:Nat):Int))]=_
  rw [or_nat]
theorem slice_rev (D:List PV) (h:D.length ≤ 4):sliceP D none none (some (-1))=some D.reverse:=by
 match D,h with
 | [],_=>kernel_rfl
 | [a],_=>kernel_rfl
 | [a,b],_=>kernel_rfl
 | [a,b,c],_=>kernel_rfl
 | [a,b,c,d],_=>kernel_rfl
 | _ :: _ :: _ :: _ :: _ :: _,h=>simp at h
noncomputable def octs (n x:Nat):List Nat:=((x % 64) :: digs 3 x).reverse.map fun d=>d ||| 128 * (n % 2)
theorem digs_len:∀ n x,(digs n x).length ≤ n
 | 0,_=>Nat.le_refl _
 | n + 1,x=>by
  have:=digs_len n (x / 64)
  simp only [digs]
  cases decide (x > 63) <;> simp <;> exact this
theorem compLoop_ints {g:PV → Option (List PV)} {k:Nat → Nat} (h:∀ d:Nat,g (.int d)=some [.int (k d:Nat)]):∀ ds:List Nat,compLoop g (ds.map fun (d:Nat)=>PV.int d)=some (ds.map fun d=>PV.int (k d:Nat))
 | []=>rfl
 | d :: r=>by simp only [List.map_cons,compLoop,h,compLoop_ints h r,List.singleton_append]
theorem ob_last (Y:PV) (Q:List PV) (x:Int) (ds:List Nat) (h1:Q.length ≤ 1000) (h2:ds.length ≤ 4):ex (ocG c m) (stm obB 2) (so2 Y Q x (ds.map fun (d:Nat)=>.int d)) =
  some (.next,so2 Y (Q ++ (ds.reverse.map fun d=>.int ((d ||| 128 * (Q.length % 2):Nat)))) x (ds.map fun (d:Nat)=>.int d)):=by
 rw [ob_2,slice_rev _ (by rw [List.length_map]; exact h2),small_of (by rw [List.length_map]; exact Nat.le_trans h2 (by decide))]
 have e1:mkV (.list (ds.map fun (d:Nat)=>PV.int d).reverse)=some (.v (.list (ds.reverse.map fun (d:Nat)=>PV.int d))):=by
  rw [mkV_l (by rw [List.length_reverse,List.length_map]; exact Nat.le_trans h2 (by decide)),List.map_reverse]
 simp only [cond_true,Option.bind_some,e1,itR_v,lcR_v]
 have e3:=compLoop_ints (g:=cE (ocG c m) (valS (stm obB 2)) (nm "digit") [(nm "octets",.own Q)]) (k:=fun d=>d ||| 128 * (Q.length % 2)) (fun d=>(ob_2e c m Q d).trans (octR_eq Q.length h1 d)) ds.reverse
 rw [e3]
 have e2:mkV (.list (ds.reverse.map fun d=>PV.int ((d ||| 128 * (Q.length % 2):Nat))))=some (.v (.list (ds.reverse.map fun d=>PV.int ((d ||| 128 * (Q.length % 2):Nat))))):=mkV_l (by rw [List.length_map,List.length_reverse]; exact Nat.le_trans h2 (by decide))
 simp only [Option.bind_some,e2]
 exact augL_ok (by simp only [List.length_map,List.length_reverse]; omega)
theorem ob_run (Y:PV) (Q:List PV) (x:Nat) (σ:Sg) (h0:ex (ocG c m) (stm obB 0) σ=some (.next,so2 Y Q x [.int (Builtin.bitAnd x 63)])) (hx:x < 64 ^ 4) (hQ:Q.length ≤ 1000) :
  ∃ y D,exs (ocG c m) obB σ=some (.next,so2 Y (Q ++ (octs Q.length x).map fun (d:Nat)=>.int d) y D):=by
 obtain ⟨y,hw⟩:=w_loop c m Y Q 3 x [.int (Builtin.bitAnd x 63)] hx (by rw [List.length_singleton]; decide) 199 (by decide)
 refine ⟨y,((x % 64) :: digs 3 x).map fun (d:Nat)=>.int d,?_⟩
 refine (xs_at (b:=obB) 0 (by kernel_rfl) h0).trans ((xs_at (b:=obB) 1 (by kernel_rfl) ((ob_1 c m Y Q x _).trans hw)).trans ?_)
 rw [mask]
 have e:[PV.int ((x % 64:Nat))] ++ ((digs 3 x).map fun d=>PV.int (d:Nat))=((x % 64) :: digs 3 x).map fun (d:Nat)=>PV.int d:=rfl
 rw [e]
 refine (xs_at (b:=obB) 2 (by kernel_rfl) (ob_last c m Y Q y ((x % 64) :: digs 3 x) hQ (by have:=digs_len 3 x; rw [List.length_cons]; exact Nat.lt_succ_of_le this))).trans ?_
 unfold octs
 rw [List.map_map]
 kernel_rfl
noncomputable def octA:Nat → List Nat → List Nat
 | _,[]=>[]
 | n,x :: r=>octs n x ++ octA (n + (octs n x).length) r
theorem octs_len (n x:Nat):(octs n x).length ≤ 4:=by
 have:=digs_len 3 x
 simp [octs]; exact this
theorem octA_len:∀ (xs:List Nat) (n:Nat),(octA n xs).length ≤ 4 * xs.length
 | [],_=>Nat.le_refl _
 | x :: r,n=>by
  have h1:=octs_len n x
  have h2:=octA_len r (n + (octs n x).length)
  simp only [octA,List.length_append,List.length_cons]; omega
theorem oct_loop (Y:PV):∀ (xs:List Nat) (Q:List PV) (y:Int) (D:List PV),(∀ x ∈ xs,x < 64 ^ 4) → Q.length + 4 * xs.length ≤ 1000 →
  ∃ y' D',forLoop (ocG c m).sc (tgtS (stm ocB 1)) (exs (ocG c m) obB) (exs (ocG c m) (elseS (stm ocB 1))) (xs.map fun (x:Nat)=>.int x) (so2 Y Q y D)=some (.next,so2 Y (Q ++ (octA Q.length xs).map fun (d:Nat)=>.int d) y' D')
 | [],Q,y,D,_,_=>⟨y,D,by
   simp only [List.map_nil,octA,List.append_nil]
   kernel_rfl⟩
 | x :: r,Q,y,D,hx,hl=>by
  simp only [List.length_cons] at hl
  obtain ⟨y1,D1,h1⟩:=ob_run c m Y Q x (so2 Y Q x D) (ob_0' c m Y Q x D) (hx x (.head _)) (by exact Nat.le_trans (Nat.le_add_right _ _) hl)
  have hq:=octs_len Q.length x
  obtain ⟨y2,D2,h2⟩:=oct_loop Y r (Q ++ (octs Q.length x).map fun (d:Nat)=>.int d) y1 D1 (fun z hz=>hx z (.tail _ hz)) (by rw [List.length_append,List.length_map]; omega)
  refine ⟨y2,D2,?_⟩
  rw [List.map_cons,forLoop,oct_b2]
  simp only
  rw [h1]
  simp only
  rw [h2]
  simp only [octA,List.length_append,List.length_map,List.map_append,List.append_assoc]
theorem bytesP_of:∀ ds:List Nat,(∀ d ∈ ds,d < 256) → bytesP (ds.map fun (d:Nat)=>.int d)=some ds
 | [],_=>rfl
 | d :: r,h=>by
  have h1:=h d (.head _)
  have h2:=bytesP_of r fun z hz=>h z (.tail _ hz)
  show (bif decide (0 ≤ (d:Int)) && decide ((d:Int) < 256) then (bytesP (r.map fun (d:Nat)=>.int d)).map ((d:Int).toNat :: ·) else none)=_
  rw [h2,decide_eq_true (Int.natCast_nonneg d),decide_eq_true (show (d:Int) < 256 by exact Int.ofNat_le.mpr h1)]
  rfl
theorem oct_tab:(List.range 64).all (fun q=>(List.range 2).all fun b=>decide (q ||| 128 * b < 256) && ((q ||| 128 * b) &&& 63 == q) && ((q ||| 128 * b) &&& 64 == 0) && decide (q ||| 64 ||| 128 * b < 256) && ((q ||| 64 ||| 128 * b) &&& 63 == q) && ((q ||| 64 ||| 128 * b) &&& 64 == 64))=true:=by decide +kernel
theorem oct_bits {q b:Nat} (hq:q < 64) (hb:b < 2):q ||| 128 * b < 256 ∧ (q ||| 128 * b) &&& 63=q ∧ (q ||| 128 * b) &&& 64=0 ∧ q ||| 64 ||| 128 * b < 256 ∧ (q ||| 64 ||| 128 * b) &&& 63=q ∧ (q ||| 64 ||| 128 * b) &&& 64=64:=by
 have:=List.all_eq_true.mp (List.all_eq_true.mp oct_tab q (List.mem_range.mpr hq)) b (List.mem_range.mpr hb)
 simpa [and_assoc] using this
theorem digs_of:∀ (n x d:Nat),d ∈ digs n x → ∃ q,q < 64 ∧ d=q ||| 64
 | n + 1,x,d,h=>by
  simp only [digs] at h
  cases hx:decide (x > 63) with
  | false=>rw [hx] at h; cases h
  | true=>
   rw [hx] at h
   rcases List.mem_cons.mp h with rfl | h
   ·exact ⟨x / 64 % 64,Nat.mod_lt _ (by decide),rfl⟩
   ·exact digs_of n _ d h
theorem octs_lt (n x d:Nat) (h:d ∈ octs n x):d < 256:=by
 unfold octs at h
 obtain ⟨e,he,rfl⟩:=List.mem_map.mp h
 rcases List.mem_cons.mp (List.mem_reverse.mp he) with rfl | he
 ·exact (oct_bits (Nat.mod_lt _ (by decide)) (Nat.mod_lt _ (by decide))).1
 ·obtain ⟨q,hq,rfl⟩:=digs_of _ _ _ he
  exact (oct_bits hq (Nat.mod_lt _ (by decide))).2.2.2.1
theorem octA_lt:∀ (xs:List Nat) (n d:Nat),d ∈ octA n xs → d < 256
 | x :: r,n,d,h=>by
  rcases List.mem_append.mp h with h | h
  ·exact octs_lt _ _ _ h
  ·exact octA_lt r _ d h
theorem octets_run (xs:List Nat) (h:∀ x ∈ xs,x < 64 ^ 4) (hl:xs.length ≤ 100) (h0:xs ≠ []):retOf (exs (ocG c m) ocB [(nm "symbols",.fz (.list (xs.map fun (x:Nat)=>.int x)))])=some (.bytes (octA 0 xs)):=by
 rw [oct_0]
 have h1:∃ y D,ex (ocG c m) (stm ocB 1) (so1 (.list (xs.map fun (x:Nat)=>.int x)) [])=some (.next,so2 (.list (xs.map fun (x:Nat)=>.int x)) ((octA 0 xs).map fun (d:Nat)=>.int d) y D):=by
  cases xs with
  | nil=>exact absurd rfl h0
  | cons x r=>
   obtain ⟨y1,D1,h1⟩:=ob_run c m (.list ((x :: r).map fun (x:Nat)=>.int x)) [] x _ (ob_0 c m _ [] x) (h x (.head _)) (by decide)
   obtain ⟨y2,D2,h2⟩:=oct_loop c m (.list ((x :: r).map fun (x:Nat)=>.int x)) r ([] ++ (octs 0 x).map fun (d:Nat)=>.int d) y1 D1 (fun z hz=>h z (.tail _ hz)) (by have:=octs_len 0 x; simp only [List.length_cons] at hl; rw [List.length_append,List.length_map,List.length_nil]; omega)
   refine ⟨y2,D2,?_⟩
   rw [oct_1,List.map_cons,forLoop,oct_b1]
   simp only [List.map_cons] at h1 h2 ⊢
   rw [h1]
   simp only [List.length_nil] at h2 ⊢
   rw [h2]
   simp only [octA,List.length_append,List.length_map,List.map_append,List.nil_append,List.length_nil,Nat.zero_add]
 obtain ⟨y,D,h1⟩:=h1
 have hq:=octA_len xs 0
 rw [xs_at (b:=ocB) 1 (by kernel_rfl) h1,xs_ret (b:=ocB) (d:=.bytes (octA 0 xs)) 2 (by kernel_rfl) (?_:_=some (Fl.ret _,so2 (.list (xs.map fun (x:Nat)=>.int x)) ((octA 0 xs).map fun (d:Nat)=>.int d) y D))]
 ·rfl
 rw [oct_2,bytesP_of _ (fun d hd=>octA_lt _ _ _ hd),small_of (by rw [List.length_map]; omega)]
 show retR (mkV (.bytes (octA 0 xs))) _=_
 unfold mkV szB
 simp only [small_of (show (octA 0 xs).length ≤ 16777216 by omega),cond_true]
 rfl
end
theorem octets_eq (n:Nat) (xs:List Nat) (h:∀ x ∈ xs,x < 64 ^ 4) (hl:xs.length ≤ 100) (h0:xs ≠ []):(O (n + 1)).call n_octets [.list (xs.map fun (x:Nat)=>.int x)]=some (.bytes (octA 0 xs)):=
 call_def (D:=df n_octets) (by kernel_rfl) (by kernel_rfl) (by kernel_rfl) (octets_run _ _ xs h hl h0)
theorem vGo_end {n:Nat} {v:Int} {b:Nat} {r:List PV} (h:b &&& 64=0):vGo (n + 1) v b r=some (.int v,r):=by
 have e:(Builtin.bitAnd (b:Int) 64 == 0)=true:=by
  rw [show (64:Int)=((64:Nat):Int) from rfl,and_nat,h]; rfl
 simp only [vGo,e,cond_true]
theorem vGo_step {n v b d:Nat} {r:List PV} (h:b &&& 64=64) (hd:d &&& 63 < 64) (hv:v < 2 ^ 64):vGo (n + 1) (v:Int) b (.int d :: r)=vGo n ((v * 64 + (d &&& 63):Nat):Int) d r:=by
 have e:(Builtin.bitAnd (b:Int) 64 == 0)=false:=by
  rw [show (64:Int)=((64:Nat):Int) from rfl,and_nat,h]; rfl
 simp only [vGo,e,cond_false,Int.natAbs_natCast,decide_eq_true hv,cond_true]
 rw [show (63:Int)=((63:Nat):Int) from rfl,and_nat,show (v:Int) * 64=((v * 64:Nat):Int) by push_cast; rfl,or_nat]
 have:=Nat.two_pow_add_eq_or_of_lt (i:=6) hd v
 rw [show (2:Nat) ^ 6=64 from rfl,Nat.mul_comm] at this
 rw [← this]
theorem vStart_at {d:Nat} {r:List PV}:vStart (.int d :: r)=vGo (196 + 1 + 1 + 1 + 1) ((d &&& 63:Nat):Int) d r:=by
 show vGo 200 (Builtin.bitAnd d 63) d r=_
 rw [show (63:Int)=((63:Nat):Int) from rfl,and_nat]
theorem m64 {a b M:Nat} (h:a < M) (hb:b < 64):a * 64 + b < M * 64:=Nat.lt_of_lt_of_le (Nat.add_lt_add_left hb _) (Nat.succ_mul a 64 ▸ Nat.mul_le_mul_right 64 h)
theorem vRead (n x:Nat) (r:List PV) (h:x < 64 ^ 4):vStart ((octs n x).map (fun (d:Nat)=>PV.int d) ++ r)=some (.int x,r):=by
 have hb:n % 2 < 2:=Nat.mod_lt _ (by decide)
 have q (y:Nat):=oct_bits (Nat.mod_lt y (show 0 < 64 by decide)) hb
 have ql (y:Nat):y % 64 < 64:=Nat.mod_lt _ (by decide)
 unfold octs
 by_cases h1:x > 63
 ·by_cases h2:x / 64 > 63
  ·by_cases h3:x / 64 / 64 > 63
   ·simp only [digs,decide_eq_true h1,decide_eq_true h2,decide_eq_true h3,cond_true,List.reverse_cons,List.reverse_nil,List.nil_append,List.cons_append,List.map_cons,List.map_nil]
    rw [vStart_at,(q _).2.2.2.2.1,vGo_step (q _).2.2.2.2.2 (by rw [(q _).2.2.2.2.1]; exact ql _) (Nat.lt_of_lt_of_le (ql _) (by decide)),(q _).2.2.2.2.1,vGo_step (q _).2.2.2.2.2 (by rw [(q _).2.2.2.2.1]; exact ql _) (Nat.lt_of_lt_of_le (m64 (ql _) (ql _)) (by decide)),(q _).2.2.2.2.1,vGo_step (q _).2.2.2.2.2 (by rw [(q _).2.1]; exact ql _) (Nat.lt_of_lt_of_le (m64 (m64 (ql _) (ql _)) (ql _)) (by decide)),(q _).2.1,vGo_end (q _).2.2.1]
    rw [Nat.mod_eq_of_lt (Nat.div_lt_of_lt_mul (Nat.div_lt_of_lt_mul (Nat.div_lt_of_lt_mul (show x < 64 * (64 * (64 * 64)) from h)))),Nat.div_add_mod',Nat.div_add_mod',Nat.div_add_mod']
   ·simp only [digs,decide_eq_true h1,decide_eq_true h2,decide_eq_false h3,cond_true,cond_false,List.reverse_cons,List.reverse_nil,List.nil_append,List.cons_append,List.map_cons,List.map_nil]
    rw [vStart_at,(q _).2.2.2.2.1,vGo_step (q _).2.2.2.2.2 (by rw [(q _).2.2.2.2.1]; exact ql _) (Nat.lt_of_lt_of_le (ql _) (by decide)),(q _).2.2.2.2.1,vGo_step (q _).2.2.2.2.2 (by rw [(q _).2.1]; exact ql _) (Nat.lt_of_lt_of_le (m64 (ql _) (ql _)) (by decide)),(q _).2.1,vGo_end (q _).2.2.1]
    rw [Nat.mod_eq_of_lt (Nat.lt_succ_of_le (Nat.le_of_not_lt h3)),Nat.div_add_mod',Nat.div_add_mod']
  ·simp only [digs,decide_eq_true h1,decide_eq_false h2,cond_true,cond_false,List.reverse_cons,List.reverse_nil,List.nil_append,List.cons_append,List.map_cons,List.map_nil]
   rw [vStart_at,(q _).2.2.2.2.1,vGo_step (q _).2.2.2.2.2 (by rw [(q _).2.1]; exact ql _) (Nat.lt_of_lt_of_le (ql _) (by decide)),(q _).2.1,vGo_end (q _).2.2.1]
   rw [Nat.mod_eq_of_lt (Nat.lt_succ_of_le (Nat.le_of_not_lt h2)),Nat.div_add_mod']
 ·simp only [digs,decide_eq_false h1,cond_false,List.reverse_cons,List.reverse_nil,List.nil_append,List.cons_append,List.map_cons,List.map_nil]
  rw [vStart_at,(q _).2.1,vGo_end (q _).2.2.1]
  rw [Nat.mod_eq_of_lt (Nat.lt_succ_of_le (Nat.le_of_not_lt h1))]
noncomputable def reB:List S:=(df n_read).body
noncomputable def rbB:List S:=bodyS (stm reB 3)
section
variable (n:Nat)
noncomputable abbrev reG:Gl:=GD (O (n + 1)).call (O (n + 1)).meth (df n_read)
noncomputable abbrev sr1 (b:List Nat) (I R:List PV) (x:Int):Sg:=[(nm "octets",.fz (.bytes b)),(nm "iterator",.iter none I),(nm "rows",.own R),(nm "x",.fz (.int x))]
noncomputable abbrev sr2 (b:List Nat) (I R:List PV) (x:Int) (W:PV):Sg:=sr1 b I R x ++ [(nm "told",.fz W)]
noncomputable abbrev sr4 (b:List Nat) (I R:List PV) (x:Int) (W:PV) (t o:PV):Sg:=sr2 b I R x W ++ [(nm "text",.fz t),(nm "op",.fz o)]
theorem read_0 (b:List Nat):exs (reG n) reB [(nm "octets",.fz (.bytes b))]=exs (reG n) (dropS reB 3) (sr1 b (b.map fun c=>.int (Int.ofNat c)) [.tuple [.str [],.int 0]] 1):=by
 refine (xs_at (b:=reB) 0 (by kernel_rfl) (?_:_=some (Fl.next,[(nm "octets",.fz (.bytes b)),(nm "iterator",.iter none (b.map fun c=>.int (Int.ofNat c)))]))).trans
   ((xs_at (b:=reB) 1 (by kernel_rfl) (?_:_=some (Fl.next,[(nm "octets",.fz (.bytes b)),(nm "iterator",.iter none (b.map fun c=>.int (Int.ofNat c))),(nm "rows",.own [.tuple [.str [],.int 0]])]))).trans
  (xs_at (b:=reB) 2 (by kernel_rfl) (by kernel_rfl))) <;> kernel_rfl
noncomputable def rT (G:Gl) (σ:Sg):Option Bool:=tr G (valS (stm reB 3)) σ (ev G (valS (stm reB 3)) σ)
theorem read_3 (σ:Sg):ex (reG n) (stm reB 3) σ=whileLoop (rT (reG n)) (exs (reG n) rbB) (exs (reG n) (elseS (stm reB 3))) 200 σ:=by kernel_rfl
theorem rT_1 (b:List Nat) (I R:List PV) (x:Int):rT (reG n) (sr1 b I R x)=some (!(x == 0)):=by kernel_rfl
theorem rT_4 (b:List Nat) (I R:List PV) (x:Int) (W t o:PV):rT (reG n) (sr4 b I R x W t o)=some (!(x == 0)):=by kernel_rfl
noncomputable def takeR (o:Option (PV × List PV)) (f:PV → List PV → Sg):Rs:=o.map fun r=>(.next,f r.1 r.2)
theorem rb_0 (b:List Nat) (I R:List PV) (x:Int):ex (reG n) (stm rbB 0) (sr1 b I R x)=takeR (vStart I) (fun d I=>[(nm "octets",.fz (.bytes b)),(nm "iterator",.iter none I),(nm "rows",.own R),(nm "x",.fz d)]):=by kernel_rfl
theorem rb_0' (b:List Nat) (I R:List PV) (x:Int) (W t o:PV):ex (reG n) (stm rbB 0) (sr4 b I R x W t o)=takeR (vStart I) (fun d I=>[(nm "octets",.fz (.bytes b)),(nm "iterator",.iter none I),(nm "rows",.own R),(nm "x",.fz d),(nm "told",.fz W),(nm "text",.fz t),(nm "op",.fz o)]):=by kernel_rfl
noncomputable def toldV (x:Int):PV:=.list [.bool (x == 0),.bool (decide (x < 256)),.bool (decide (x ≥ 256)),.bool (-x == 0),.bool (decide (-x < 256)),.bool (decide (-x ≥ 256))]
theorem rb_1 (b:List Nat) (I R:List PV) (x:Int):ex (reG n) (stm rbB 1) (sr1 b I R x)=some (.next,sr2 b I R x (toldV x)):=by kernel_rfl
theorem rb_1' (b:List Nat) (I R:List PV) (x:Int) (W t o:PV):ex (reG n) (stm rbB 1) (sr4 b I R x W t o)=some (.next,sr4 b I R x (toldV x) t o):=by kernel_rfl
noncomputable def repR (d:PV):Option EV:=((reprP d).map .str).bind mkV
noncomputable abbrev ifC (o:Option Bool) (t e:Rs):Rs:=ifS o t e
theorem ifC_t (t e:Rs):ifS (some true) t e=t:=rfl
theorem ifC_f (t e:Rs):ifS (some false) t e=e:=rfl
noncomputable def neR (a b:Option EV):Option Bool:=trV (chainE [.NotEq] a [b])
noncomputable def sixV (e t g:Bool):PV:=.list [.bool e,.bool t,.bool g,.bool e,.bool true,.bool false]
theorem rb_2 (b:List Nat) (I R:List PV) (x:Int) (W:PV):ex (reG n) (stm rbB 2) (sr2 b I R x W)=ifC (neR (repR W) (repR (sixV (x == 0) (decide (x < 256)) (decide (x ≥ 256))))) (exs (reG n) (bodyS (stm rbB 2)) (sr2 b I R x W)) (some (.next,sr2 b I R x W)):=by kernel_rfl
theorem rb_2' (b:List Nat) (I R:List PV) (x:Int) (W t o:PV):ex (reG n) (stm rbB 2) (sr4 b I R x W t o)=ifC (neR (repR W) (repR (sixV (x == 0) (decide (x < 256)) (decide (x ≥ 256))))) (exs (reG n) (bodyS (stm rbB 2)) (sr4 b I R x W t o)) (some (.next,sr4 b I R x W t o)):=by kernel_rfl
theorem six_eq (e t g:Bool):neR (repR (sixV e t g)) (repR (sixV e t g))=some false:=by
 cases e <;> cases t <;> cases g <;> kernel_rfl
theorem told_six (x:Nat):toldV (x:Int)=sixV ((x:Int) == 0) (decide ((x:Int) < 256)) (decide ((x:Int) ≥ 256)):=by
 have e1:(-(x:Int) == 0)=((x:Int) == 0):=by
  by_cases h:x=0
  ·subst h; rfl
  ·rw [beq_eq_false_iff_ne.mpr (by omega),beq_eq_false_iff_ne.mpr (by exact mt Int.ofNat.inj h)]
 unfold toldV sixV
 rw [e1,decide_eq_true (show -(x:Int) < 256 by omega),decide_eq_false (show ¬ -(x:Int) ≥ 256 by omega)]
noncomputable def asgP (G:Gl) (s:S) (σ:Sg) (o:Option EV):Rs:=match s with
 | .tup xs k tp e _=>tupS G xs e k tp o σ
 | _=>none
theorem rb_3 (b:List Nat) (I R:List PV) (x:Int) (W:PV):ex (reG n) (stm rbB 3) (sr2 b I R x W)=asgP (reG n) (stm rbB 3) (sr2 b I R x W) ((atI R (-1)).map .v):=by kernel_rfl
theorem rb_3' (b:List Nat) (I R:List PV) (x:Int) (W t o:PV):ex (reG n) (stm rbB 3) (sr4 b I R x W t o)=asgP (reG n) (stm rbB 3) (sr4 b I R x W t o) ((atI R (-1)).map .v):=by kernel_rfl
theorem rb_3e (b:List Nat) (I R:List PV) (x:Int) (W:PV) (t o:PV):asgP (reG n) (stm rbB 3) (sr2 b I R x W) (some (.v (.tuple [t,o])))=some (.next,sr4 b I R x W t o):=by kernel_rfl
theorem rb_3e' (b:List Nat) (I R:List PV) (x:Int) (W:PV) (t o t' o':PV):asgP (reG n) (stm rbB 3) (sr4 b I R x W t' o') (some (.v (.tuple [t,o])))=some (.next,sr4 b I R x W t o):=by kernel_rfl
noncomputable def b3S (c:Nat):List Nat:=bif decide (c ≥ 119808) then [97 + (c - 119808) % 26] else bif decide (65 ≤ c) && decide (c < 91) then [c + 32] else [c]
noncomputable def setR (R:List PV) (o:Option EV) (f:List PV → Sg):Rs:=nextR ((valO o).bind fun d=>(setI R (-1) d).map f)
noncomputable def thn (o:Rs):Rs:=seqR o fun σ=>some (.next,σ)
theorem thn_next (σ:Sg):thn (some (.next,σ))=some (.next,σ):=rfl
noncomputable def outR (x:Int) (R:List PV) (t:List Nat) (o:PV) (f:List PV → Sg):Rs:=
 bif x == 256 then thn (appL R (some (.v (.tuple [.str [],.int 0]))) f)
 else bif decide (0 < x) && decide (x < 55) then thn (thn (setR R (some (.v (.tuple [.str t,.int x]))) f))
 else bif decide (x ≥ 256) && !inB1 (x - 256) then thn (thn (thn (setR R ((eachV [binR .Add (some (.v (.str t))) (some (.v (.str (b3S (x - 256).toNat)))),some (.v o)]).bind fun l=>mkV (.tuple l)) f)))
 else some (.next,f R)
noncomputable def symL:List Int:=[0,256,265,288] ++ ((List.range 48).map fun (k:Nat)=>(7 + k:Int)) ++ ((List.range 200).map fun (k:Nat)=>(56 + k:Int)) ++ unT.map (256 + ·) ++ (spT.map fun s=>(List.range 26).map fun (k:Nat)=>(256 + (s + k):Int)).flatten
theorem rb_4 (b:List Nat) (I R:List PV) (W:PV) (t:List Nat) (o:PV):(symL.map fun x=>ex (reG n) (stm rbB 4) (sr4 b I R x W (.str t) o))=mapT symL fun x=>outR x R t o fun R=>sr4 b I R x W (.str t) o:=by kernel_rfl
theorem read_4 (b:List Nat) (R:List PV) (x:Int) (W t o:PV):ex (reG n) (stm reB 4) (sr4 b [] R x W t o)=retR ((bif smallN R.length then (sliceP R none (some (-1)) none).bind fun l=>mkV (.list l) else none)) [(nm "octets",.fz (.bytes b)),(nm "rows",.own R),(nm "x",.fz (.int x)),(nm "told",.fz W),(nm "text",.fz t),(nm "op",.fz o)]:=by kernel_rfl
end
theorem atI_last {α:Type} (R:List α) (d:α) (h:R.length ≤ 1000):atI (R ++ [d]) (-1)=some d:=by
 unfold atI
 rw [show decide ((-1:Int).natAbs ≤ 16777216)=true from rfl,show decide ((0:Int) ≤ -1)=false from rfl,decide_eq_true (show (0:Int) ≤ -1 + ((R ++ [d]).length:Nat) by rw [List.length_append,List.length_singleton]; omega)]
 show (R ++ [d])[(-1 + ((R ++ [d]).length:Int)).toNat]?=some d
 rw [show (-1 + ((R ++ [d]).length:Int)).toNat=R.length by rw [List.length_append,List.length_singleton]; omega]
 simp
theorem setI_last {α:Type} (R:List α) (d e:α) (h:R.length ≤ 1000):setI (R ++ [d]) (-1) e=some (R ++ [e]):=by
 unfold setI
 have hl:(R ++ [d]).length=R.length + 1:=by simp
 rw [show decide ((-1:Int).natAbs ≤ 16777216)=true from rfl,show (decide ((0:Int) ≤ -1) && decide ((-1:Int) < ((R ++ [d]).length:Nat)))=false from rfl,decide_eq_true (show (0:Int) ≤ -1 + ((R ++ [d]).length:Nat) by rw [hl]; omega)]
 show some ((R ++ [d]).set (-1 + ((R ++ [d]).length:Int)).toNat e)=_
 rw [show (-1 + ((R ++ [d]).length:Int)).toNat=R.length by rw [hl]; omega]
 simp
noncomputable abbrev Rd:=List PV × List Nat × Int
noncomputable def curP (s:Rd):PV:=.tuple [.str s.2.1,.int s.2.2]
noncomputable def rowsP (s:Rd):List PV:=s.1 ++ [curP s]
noncomputable def stepP (s:Rd) (x:Int):Rd:=bif x == 256 then (rowsP s,[],0) else bif decide (0 < x) && decide (x < 55) then (s.1,s.2.1,x)
 else bif decide (x ≥ 256) && !inB1 (x - 256) then (s.1,s.2.1 ++ b3S (x - 256).toNat,s.2.2) else s
theorem b3S_len (c:Nat):(b3S c).length=1:=by
 unfold b3S
 cases decide (c ≥ 119808) <;> cases (decide (65 ≤ c) && decide (c < 91)) <;> rfl
theorem outR_eq (x:Int) (s:Rd) (f:List PV → Sg) (h1:s.1.length ≤ 900) (h2:s.2.1.length ≤ 900):outR x (rowsP s) s.2.1 (.int s.2.2) f=some (.next,f (rowsP (stepP s x))):=by
 unfold outR stepP
 cases h:x == 256
 ·cases h3:decide (0 < x) && decide (x < 55)
  ·cases h4:decide (x ≥ 256) && !inB1 (x - 256)
   ·rfl
   ·simp only [cond_false,cond_true]
    have e:((eachV [binR .Add (some (.v (.str s.2.1))) (some (.v (.str (b3S (x - 256).toNat)))),some (.v (.int s.2.2))]).bind fun l=>mkV (.tuple l))=some (.v (.tuple [.str (s.2.1 ++ b3S (x - 256).toNat),.int s.2.2])):=by
     show ((eachV [((bif smallN (s.2.1.length + (b3S (x - 256).toNat).length) then some (s.2.1 ++ b3S (x - 256).toNat) else none).map PV.str).map EV.v,some (.v (.int s.2.2))]).bind fun l=>mkV (.tuple l))=_
     rw [small_of (by rw [b3S_len]; exact Nat.lt_of_le_of_lt h2 (by decide))]
     rfl
    rw [e]
    show thn (thn (thn (nextR ((setI (rowsP s) (-1) (.tuple [.str (s.2.1 ++ b3S (x - 256).toNat),.int s.2.2])).map f))))=_
    unfold rowsP
    rw [setI_last _ _ _ (by exact Nat.le_trans h1 (by decide))]
    rfl
  ·simp only [cond_false,cond_true]
   show thn (thn (nextR ((setI (rowsP s) (-1) (.tuple [.str s.2.1,.int x])).map f)))=_
   unfold rowsP
   rw [setI_last _ _ _ (by exact Nat.le_trans h1 (by decide))]
   rfl
 ·simp only [cond_true]
  rw [appL_ok (by unfold rowsP; rw [List.length_append,List.length_singleton]; omega)]
  rfl
section
variable (n:Nat)
theorem rb_run (b:List Nat) (k:Nat) (I:List PV) (x:Nat) (s:Rd) (σ:Sg) (hx:x < 64 ^ 4) (hs:(x:Int) ∈ symL) (h1:s.1.length ≤ 900) (h2:s.2.1.length ≤ 900)
  (hσ:(∃ y,σ=sr1 b ((octs k x).map (fun (d:Nat)=>PV.int d) ++ I) (rowsP s) y) ∨ ∃ y W t o,σ=sr4 b ((octs k x).map (fun (d:Nat)=>PV.int d) ++ I) (rowsP s) y W t o) :
  ∃ W t o,exs (reG n) rbB σ=some (.next,sr4 b I (rowsP (stepP s x)) x W t o):=by
 refine ⟨toldV x,.str s.2.1,.int s.2.2,?_⟩
 have last:ex (reG n) (stm rbB 4) (sr4 b I (rowsP s) x (toldV x) (.str s.2.1) (.int s.2.2))=some (.next,sr4 b I (rowsP (stepP s x)) x (toldV x) (.str s.2.1) (.int s.2.2)):=
  (get_M (rb_4 n b I (rowsP s) (toldV x) s.2.1 (.int s.2.2)) hs).trans (outR_eq x s _ h1 h2)
 have at3:atI (rowsP s) (-1)=some (curP s):=atI_last _ _ (by exact Nat.le_trans h1 (by decide))
 have fin:exs (reG n) (dropS rbB 4) (sr4 b I (rowsP s) x (toldV x) (.str s.2.1) (.int s.2.2))=some (.next,sr4 b I (rowsP (stepP s x)) x (toldV x) (.str s.2.1) (.int s.2.2)):=by
  refine (xs_at (b:=rbB) 4 (by kernel_rfl) last).trans ?_
  kernel_rfl
 rcases hσ with ⟨y,rfl⟩ | ⟨y,W,t,o,rfl⟩
 ·refine (xs_at (b:=rbB) 0 (by kernel_rfl) (?_:_=some (Fl.next,sr1 b I (rowsP s) x))).trans ((xs_at (b:=rbB) 1 (by kernel_rfl) (rb_1 n b I _ x)).trans ((xs_at (b:=rbB) 2 (by kernel_rfl) (?_:_=some (Fl.next,sr2 b I (rowsP s) x (toldV x)))).trans ((xs_at (b:=rbB) 3 (by kernel_rfl) ?_).trans fin)))
  ·rw [rb_0,vRead k x I hx]; rfl
  ·rw [rb_2,told_six,six_eq]; rfl
  ·rw [rb_3,at3]; exact rb_3e n b I _ x _ _ _
 ·refine (xs_at (b:=rbB) 0 (by kernel_rfl) (?_:_=some (Fl.next,sr4 b I (rowsP s) x W t o))).trans ((xs_at (b:=rbB) 1 (by kernel_rfl) (rb_1' n b I _ x W t o)).trans ((xs_at (b:=rbB) 2 (by kernel_rfl) (?_:_=some (Fl.next,sr4 b I (rowsP s) x (toldV x) t o))).trans ((xs_at (b:=rbB) 3 (by kernel_rfl) ?_).trans fin)))
  ·rw [rb_0',vRead k x I hx]; rfl
  ·rw [rb_2',told_six,six_eq]; rfl
  ·rw [rb_3',at3]; exact rb_3e' n b I _ x _ _ _ _ _
theorem step_len (s:Rd) (x:Int):(stepP s x).1.length ≤ s.1.length + 1 ∧ (stepP s x).2.1.length ≤ s.2.1.length + 1:=by
 unfold stepP rowsP
 cases x == 256 <;> cases decide (0 < x) && decide (x < 55) <;> cases decide (x ≥ 256) && !inB1 (x - 256) <;> simp [b3S_len]
theorem rd_more {b:List Nat} {l:List PV} {s:Rd} {σ:Sg} (hσ:(∃ y:Int,y ≠ 0 ∧ σ=sr1 b l (rowsP s) y) ∨ ∃ (y:Int) (W t o:PV),y ≠ 0 ∧ σ=sr4 b l (rowsP s) y W t o):rT (reG n) σ=some true:=by
 rcases hσ with ⟨y,hy,rfl⟩ | ⟨y,W,t,o,hy,rfl⟩
 ·rw [rT_1,beq_eq_false_iff_ne.mpr hy]; rfl
 ·rw [rT_4,beq_eq_false_iff_ne.mpr hy]; rfl
theorem rd_any {b:List Nat} {l:List PV} {s:Rd} {σ:Sg} (hσ:(∃ y:Int,y ≠ 0 ∧ σ=sr1 b l (rowsP s) y) ∨ ∃ (y:Int) (W t o:PV),y ≠ 0 ∧ σ=sr4 b l (rowsP s) y W t o):(∃ y:Int,σ=sr1 b l (rowsP s) y) ∨ ∃ (y:Int) (W t o:PV),σ=sr4 b l (rowsP s) y W t o:=
 hσ.elim (fun ⟨y,_,h⟩=>.inl ⟨y,h⟩) fun ⟨y,W,t,o,_,h⟩=>.inr ⟨y,W,t,o,h⟩
noncomputable abbrev octP (k:Nat) (xs:List Nat):List PV:=(octA k (xs ++ [0])).map fun (d:Nat)=>PV.int d
theorem octP_cons (k x:Nat) (r:List Nat):octP k (x :: r)=(octs k x).map (fun (d:Nat)=>PV.int d) ++ octP (k + (octs k x).length) r:=by simp [octP,octA]
theorem read_loop (b xs:List Nat):∀ (k:Nat) (s:Rd) (σ:Sg) (N:Nat),(∀ x ∈ xs,x < 64 ^ 4 ∧ (x:Int) ∈ symL ∧ x ≠ 0) → xs.length < N → s.1.length + xs.length ≤ 800 → s.2.1.length + xs.length ≤ 800 →
  ((∃ y:Int,y ≠ 0 ∧ σ=sr1 b (octP k xs) (rowsP s) y) ∨ ∃ (y:Int) (W t o:PV),y ≠ 0 ∧ σ=sr4 b (octP k xs) (rowsP s) y W t o) →
  ∃ W t o,whileLoop (rT (reG n)) (exs (reG n) rbB) (exs (reG n) (elseS (stm reB 3))) (N + 1) σ=some (.next,sr4 b [] (rowsP (xs.foldl (fun s (x:Nat)=>stepP s x) s)) 0 W t o):=by
 induction xs with
 | nil=>
  intro k s σ N hx hN l1 l2 hσ
  cases N with
  | zero=>cases hN
  | succ N=>
   have ht:=rd_more (n:=n) hσ
   rw [show octP k []=(octs k 0).map (fun (d:Nat)=>PV.int d) ++ [] by simp [octP,octA]] at hσ
   obtain ⟨W,t,o,h⟩:=rb_run n b k [] 0 s σ (by decide) (List.mem_append_left _ (List.mem_append_left _ (List.mem_append_left _ (List.mem_append_left _ (.head _))))) (Nat.le_trans l1 (by decide)) (Nat.le_trans l2 (by decide)) (rd_any hσ)
   refine ⟨W,t,o,?_⟩
   rw [whileLoop,ht]
   dsimp only
   rw [h]
   dsimp only
   rw [whileLoop,rT_4,show stepP s ((0:Nat):Int)=s from rfl]
   kernel_rfl
 | cons x r ih=>
  intro k s σ N hx hN l1 l2 hσ
  cases N with
  | zero=>cases hN
  | succ N=>
   have hx0:=hx x (.head _)
   have ht:=rd_more (n:=n) hσ
   rw [octP_cons] at hσ
   have hl:=step_len s x
   rw [List.length_cons] at l1 l2
   obtain ⟨W,t,o,h⟩:=rb_run n b k _ x s σ hx0.1 hx0.2.1 (by omega) (by omega) (rd_any hσ)
   obtain ⟨W',t',o',ih⟩:=ih (k + (octs k x).length) (stepP s x) _ N (fun z hz=>hx z (.tail _ hz)) (Nat.lt_of_succ_lt_succ hN) (by omega) (by omega) (.inr ⟨x,W,t,o,Int.natCast_ne_zero.mpr hx0.2.2,rfl⟩)
   refine ⟨W',t',o',?_⟩
   rw [whileLoop,ht]
   dsimp only
   rw [h]
   dsimp only
   rw [ih]
   rfl
end
theorem slice_init (a:Nat → PV) (d:PV):sliceP (seven a ++ [d]) none (some (-1)) none=some (seven a):=by kernel_rfl
theorem un_in:(unT.all fun x=>inB1 x)=true:=by decide +kernel
theorem unS_in (d:Int):inB1 (unS d)=true:=by
 obtain ⟨a,b⟩:=fmod_lt d (k:=27) (by decide)
 have hlt:(d.fmod 27).toNat < unT.length:=by rw [show unT.length=27 by decide +kernel]; omega
 unfold unS
 rw [List.getD_eq_getElem?_getD,List.getElem?_eq_getElem hlt]
 exact List.all_eq_true.mp un_in _ (List.getElem_mem hlt)
theorem un_ge:(unT.all fun x=>decide (0 < x))=true:=by decide +kernel
theorem unS_mem (d:Int):unS d ∈ unT:=by
 obtain ⟨a,b⟩:=fmod_lt d (k:=27) (by decide)
 have hlt:(d.fmod 27).toNat < unT.length:=by rw [show unT.length=27 by decide +kernel]; omega
 unfold unS
 rw [List.getD_eq_getElem?_getD,List.getElem?_eq_getElem hlt]
 exact List.getElem_mem hlt
theorem unS_pos (d:Int):0 < unS d:=of_decide_eq_true (List.all_eq_true.mp un_ge _ (unS_mem d))
theorem step_term (s:Rd) (x:Int) (h1:55 ≤ x) (h2:x < 256):stepP s x=s:=by
 unfold stepP
 rw [beq_eq_false_iff_ne.mpr (by exact Int.ne_of_lt h2),decide_eq_false (show ¬ x < 55 by exact Int.not_lt.mpr h1),decide_eq_false (show ¬ x ≥ 256 by exact Int.not_le.mpr h2)]
 simp
theorem step_un (s:Rd) (d:Int):stepP s (256 + unS d)=s:=by
 have:=unS_pos d
 unfold stepP
 rw [beq_eq_false_iff_ne.mpr (by omega),decide_eq_false (show ¬ 256 + unS d < 55 by omega),show 256 + unS d - 256=unS d by omega,unS_in]
 simp
theorem step_tok (s:Rd) (x:Int) (h1:0 < x) (h2:x < 55):stepP s x=(s.1,s.2.1,x):=by
 unfold stepP
 rw [beq_eq_false_iff_ne.mpr (by omega),decide_eq_true h1,decide_eq_true h2]
 rfl
theorem step_sign (s:Rd) (c:Nat) (h0:0 < c) (h:inB1 c=false):stepP s (256 + c)=(s.1,s.2.1 ++ b3S c,s.2.2):=by
 unfold stepP
 rw [beq_eq_false_iff_ne.mpr (by omega),decide_eq_false (show ¬ 256 + (c:Int) < 55 by omega),decide_eq_true (show 256 + (c:Int) ≥ 256 by omega),show 256 + (c:Int) - 256=c by omega,h,Int.toNat_natCast]
 simp
theorem ld_signs:(List.range 37).all (fun r=>(ld r).all fun c=>c == 32 || c == 9)=true:=by decide +kernel
theorem ld_sign {r:Nat} (h:r < 37) (c:Nat) (hc:c ∈ ld r):c=32 ∨ c=9:=by
 have:=List.all_eq_true.mp (List.all_eq_true.mp ld_signs r (List.mem_range.mpr h)) c hc
 simpa using this
theorem fold_signs:∀ (l:List Nat) (s:Rd),(∀ c ∈ l,c=32 ∨ c=9) → (l.map fun (c:Nat)=>(256 + c:Int)).foldl stepP s=(s.1,s.2.1 ++ l,s.2.2)
 | [],s,_=>by simp
 | c :: r,s,h=>by
  have hc:0 < c ∧ inB1 c=false ∧ b3S c=[c]:=by
   rcases h c (.head _) with rfl | rfl <;> exact ⟨by decide,rfl,rfl⟩
  rw [List.map_cons,List.foldl_cons,step_sign s c hc.1 hc.2.1,hc.2.2,fold_signs r _ fun z hz=>h z (.tail _ hz)]
  simp
theorem sp_tab:((List.range 12).all fun i=>(List.range 26).all fun k=>!inB1 (spT.getD i 0 + k) && b3S (spT.getD i 0 + k).toNat == [97 + k] && decide (0 < spT.getD i 0 + k))=true:=by decide +kernel
theorem sp_eq (t d:Int) (h0:0 ≤ t) (h1:t < 26):∃ c:Nat,spS t d=c ∧ 0 < c ∧ inB1 c=false ∧ b3S c=[97 + t.toNat]:=by
 obtain ⟨a,b⟩:=fmod_lt d (k:=12) (by decide)
 have:=List.all_eq_true.mp (List.all_eq_true.mp sp_tab (d.fmod 12).toNat (List.mem_range.mpr (by omega))) t.toNat (List.mem_range.mpr (by omega))
 simp only [Bool.and_eq_true,Bool.not_eq_true',beq_iff_eq,decide_eq_true_eq] at this
 have e:spS t d=spT.getD (d.fmod 12).toNat 0 + (t.toNat:Int):=by unfold spS; omega
 refine ⟨(spT.getD (d.fmod 12).toNat 0 + (t.toNat:Int)).toNat,by rw [e]; omega,by omega,?_,this.1.2⟩
 rw [show (((spT.getD (d.fmod 12).toNat 0 + (t.toNat:Int)).toNat:Nat):Int)=spT.getD (d.fmod 12).toNat 0 + (t.toNat:Int) by omega]
 exact this.1.1
theorem row_read (r:Nat) (d t:Int) (hr:r < 37) (ht:t < 0 ∨ (0 ≤ t ∧ t < 26)) (l:List PV):(syA r d ++ syB d t).foldl stepP (l,[],0)=(l ++ [rwP r d t],[],0):=by
 obtain ⟨m1,m2⟩:=fmod_lt d (k:=200) (by decide)
 obtain ⟨m3,m4⟩:=fmod_lt d (k:=48) (by decide)
 unfold syA
 rw [List.append_assoc,List.foldl_append,List.foldl_append,List.foldl_cons,List.foldl_cons,List.foldl_nil,step_term _ (255 - d.fmod 200) (by omega) (by omega),step_un,fold_signs _ _ fun c hc=>ld_sign hr c hc]
 rcases ht with h | ⟨h0,h1⟩
 ·simp only [syB,rwP,decide_eq_true h,cond_true,List.foldl_cons,List.foldl_nil,List.nil_append]
  rw [step_tok _ (7 + d.fmod 48) (by omega) (by omega)]
  rfl
 ·obtain ⟨c,e,c0,c1,c2⟩:=sp_eq t d h0 h1
  simp only [syB,rwP,decide_eq_false (show ¬ t < 0 by exact Int.not_lt.mpr h0),cond_false,List.foldl_cons,List.foldl_nil,List.nil_append]
  rw [e,step_sign _ c c0 c1,c2]
  rfl
theorem page_read (r:Nat → Nat) (p k:Nat → Int) (hr:∀ i,r i < 37) (hk:∀ i,k i < 0 ∨ (0 ≤ k i ∧ k i < 26)):∀ (is:List Nat) (l:List PV),(sysP r p k is).foldl stepP (l,[],0)=(l ++ is.map fun i=>rwP (r i) (p i) (k i),[],0)
 | [],l=>by simp [sysP]
 | i :: is,l=>by
  have:=page_read r p k hr hk is (l ++ [rwP (r i) (p i) (k i)])
  simp only [sysP,List.flatMap_cons,List.foldl_append] at this ⊢
  have h:=row_read (r i) (p i) (k i) (hr i) (hk i) l
  rw [List.foldl_append] at h
  rw [h,this]
  simp
theorem symL_lt:symL.all (fun x=>decide (x < 64 ^ 4))=true:=by decide +kernel
noncomputable abbrev OkS (x:Int):Prop:=x ∈ symL ∧ 0 < x
theorem sym_1 {x:Int} (h:x ∈ [0,256,265,288]):x ∈ symL:=List.mem_append_left _ (List.mem_append_left _ (List.mem_append_left _ (List.mem_append_left _ h)))
theorem sym_2 {x:Int} (h:x ∈ (List.range 48).map fun (k:Nat)=>(7 + k:Int)):x ∈ symL:=List.mem_append_left _ (List.mem_append_left _ (List.mem_append_left _ (List.mem_append_right _ h)))
theorem sym_3 {x:Int} (h:x ∈ (List.range 200).map fun (k:Nat)=>(56 + k:Int)):x ∈ symL:=List.mem_append_left _ (List.mem_append_left _ (List.mem_append_right _ h))
theorem sym_4 {x:Int} (h:x ∈ unT):256 + x ∈ symL:=List.mem_append_left _ (List.mem_append_right _ (List.mem_map.mpr ⟨x,h,rfl⟩))
theorem sym_5 {s:Int} {k:Nat} (h:s ∈ spT) (hk:k < 26):(256 + (s + k):Int) ∈ symL:=
 List.mem_append_right _ (List.mem_flatten.mpr ⟨_,List.mem_map.mpr ⟨s,h,rfl⟩,List.mem_map.mpr ⟨k,List.mem_range.mpr hk,rfl⟩⟩)
theorem sp_pos:spT.all (fun x=>decide (0 < x))=true:=by decide +kernel
theorem row_ok (r:Nat) (d t:Int) (hr:r < 37) (ht:t < 0 ∨ (0 ≤ t ∧ t < 26)):∀ x ∈ syA r d ++ syB d t,OkS x:=by
 obtain ⟨m1,m2⟩:=fmod_lt d (k:=200) (by decide)
 obtain ⟨m3,m4⟩:=fmod_lt d (k:=48) (by decide)
 obtain ⟨m5,m6⟩:=fmod_lt d (k:=12) (by decide)
 intro x hx
 rcases List.mem_append.mp hx with hx | hx
 ·rcases List.mem_append.mp hx with hx | hx
  ·simp only [List.mem_cons,List.not_mem_nil,or_false] at hx
   rcases hx with rfl | rfl
   ·exact ⟨sym_3 (List.mem_map.mpr ⟨(199 - d.fmod 200).toNat,List.mem_range.mpr (by omega),by omega⟩),by omega⟩
   ·exact ⟨sym_4 (unS_mem _),by have:=unS_pos (d.fdiv 12); omega⟩
  ·obtain ⟨c,hc,rfl⟩:=List.mem_map.mp hx
   rcases ld_sign hr c hc with rfl | rfl
   ·exact ⟨sym_1 (by decide),by decide⟩
   ·exact ⟨sym_1 (by decide),by decide⟩
 ·unfold syB at hx
  rcases ht with h | ⟨h0,h1⟩
  ·rw [decide_eq_true h] at hx
   simp only [cond_true,List.mem_cons,List.not_mem_nil,or_false] at hx
   rcases hx with rfl | rfl
   ·exact ⟨sym_2 (List.mem_map.mpr ⟨(d.fmod 48).toNat,List.mem_range.mpr (by omega),by omega⟩),by omega⟩
   ·exact ⟨sym_1 (by decide),by decide⟩
  ·rw [decide_eq_false (show ¬ t < 0 by exact Int.not_lt.mpr h0)] at hx
   simp only [cond_false,List.mem_cons,List.not_mem_nil,or_false] at hx
   rcases hx with rfl | rfl
   ·have hlt:(d.fmod 12).toNat < spT.length:=by rw [show spT.length=12 by decide +kernel]; omega
    have hm:spT.getD (d.fmod 12).toNat 0 ∈ spT:=by rw [List.getD_eq_getElem?_getD,List.getElem?_eq_getElem hlt]; exact List.getElem_mem hlt
    have e:256 + spS t d=256 + (spT.getD (d.fmod 12).toNat 0 + (t.toNat:Int)):=by unfold spS; omega
    have:=of_decide_eq_true (List.all_eq_true.mp sp_pos _ hm)
    rw [e]
    exact ⟨sym_5 hm (by omega),by omega⟩
   ·exact ⟨sym_1 (by decide),by decide⟩
theorem sys_ok (r:Nat → Nat) (p k:Nat → Int) (hr:∀ i,r i < 37) (hk:∀ i,k i < 0 ∨ (0 ≤ k i ∧ k i < 26)) (is:List Nat):∀ x ∈ sysP r p k is,OkS x:=by
 intro x hx
 obtain ⟨i,_,hx⟩:=List.mem_flatMap.mp hx
 exact row_ok _ _ _ (hr i) (hk i) x hx
noncomputable def sysN (r:Nat → Nat) (p k:Nat → Int):List Nat:=(sysP r p k is7).map Int.toNat
theorem read_eq (n:Nat) (r:Nat → Nat) (p k:Nat → Int) (hr:∀ i,r i < 37) (hk:∀ i,k i < 0 ∨ (0 ≤ k i ∧ k i < 26)):(O (n + 2)).call n_read [.bytes (octA 0 (sysN r p k ++ [0]))]=some (.list (is7.map fun i=>rwP (r i) (p i) (k i))):=by
 refine call_def (D:=df n_read) (by kernel_rfl) (by kernel_rfl) (by kernel_rfl) ?_
 show retOf (exs (reG n) reB _)=_
 have hl:=sysP_len r p k hr is7
 rw [show is7.length=7 from rfl] at hl
 have h3:∃ W t o,ex (reG n) (stm reB 3) (sr1 (octA 0 (sysN r p k ++ [0])) ((octA 0 (sysN r p k ++ [0])).map fun c=>.int (Int.ofNat c)) [.tuple [.str [],.int 0]] 1)=some (.next,sr4 (octA 0 (sysN r p k ++ [0])) [] ((is7.map fun i=>rwP (r i) (p i) (k i)) ++ [.tuple [.str [],.int 0]]) 0 W t o):=by
  have hx:∀ x ∈ sysN r p k,x < 64 ^ 4 ∧ (x:Int) ∈ symL ∧ x ≠ 0:=by
   intro x hx
   unfold sysN at hx
   obtain ⟨y,hy,rfl⟩:=List.mem_map.mp hx
   have:=sys_ok r p k hr hk is7 y hy
   have lt:=of_decide_eq_true (List.all_eq_true.mp symL_lt y this.1)
   have e:((y.toNat:Nat):Int)=y:=by have:=this.2; omega
   exact ⟨by omega,by rw [e]; exact this.1,by have:=this.2; omega⟩
  have hn:(sysN r p k).length ≤ 70:=by unfold sysN; rw [List.length_map]; exact hl
  obtain ⟨W,t,o,h⟩:=read_loop n (octA 0 (sysN r p k ++ [0])) (sysN r p k) 0 ([],[],0) _ 199 hx (by exact Nat.lt_of_le_of_lt hn (by decide)) (by simp only [List.length_nil]; omega) (by simp only [List.length_nil]; omega) (.inl ⟨1,by decide,rfl⟩)
  refine ⟨W,t,o,?_⟩
  rw [read_3]
  refine h.trans ?_
  have e:(sysN r p k).foldl (fun s (x:Nat)=>stepP s x) (([],[],0):Rd)=(sysP r p k is7).foldl stepP ([],[],0):=by
   unfold sysN
   rw [List.foldl_map]
   have:∀ (l:List Int) (s:Rd),(∀ x ∈ l,0 ≤ x) → l.foldl (fun s (y:Int)=>stepP s (y.toNat:Int)) s=l.foldl stepP s:=by
    intro l
    induction l with
    | nil=>intro s _; rfl
    | cons x l ih=>
     intro s hx
     rw [List.foldl_cons,List.foldl_cons,show ((x.toNat:Nat):Int)=x by have:=hx x (.head _); exact Int.toNat_of_nonneg this]
     exact ih _ fun z hz=>hx z (.tail _ hz)
   exact this _ _ fun x hx=>by have:=(sys_ok r p k hr hk is7 x hx).2; exact Int.le_of_lt this
  rw [e,page_read r p k hr hk]
  rfl
 obtain ⟨W,t,o,h3⟩:=h3
 have e0:zipArgs (df n_read).params [.bytes (octA 0 (sysN r p k ++ [0]))]=[(nm "octets",.fz (.bytes (octA 0 (sysN r p k ++ [0]))))]:=by kernel_rfl
 rw [e0,read_0,xs_at (b:=reB) 3 (by kernel_rfl) h3]
 have h4:=read_4 n (octA 0 (sysN r p k ++ [0])) ((is7.map fun i=>rwP (r i) (p i) (k i)) ++ [.tuple [.str [],.int 0]]) (0:Int) W t o
 rw [show sliceP ((is7.map fun i=>rwP (r i) (p i) (k i)) ++ [.tuple [.str [],.int 0]]) none (some (-1)) none=some (is7.map fun i=>rwP (r i) (p i) (k i)) from slice_init (fun i=>rwP (r i) (p i) (k i)) _] at h4
 rw [xs_ret (b:=reB) (d:=.list (is7.map fun i=>rwP (r i) (p i) (k i))) 4 (by kernel_rfl) h4]
 rfl
noncomputable def inD:Df:=mdf n_init
noncomputable def inB:List S:=inD.body
noncomputable def chB:List S:=bodyS (stm inB 4)
noncomputable def runL (K:List (PySem.Str × NameKind)) (t:Tg) (body:Sg → Rs):List PV → Sg → Option Sg
 | [],σ=>some σ
 | d :: r,σ=>match bindT K t d σ with
  | none=>none
  | some σ=>match body σ with
   | some (.next,σ)=>runL K t body r σ
   | _=>none
theorem forLoop_run {K:List (PySem.Str × NameKind)} {t:Tg} {body els:Sg → Rs} {ys:List PV} {σ':Sg}:∀ (xs:List PV) (σ:Sg),runL K t body xs σ=some σ' → forLoop K t body els (xs ++ ys) σ=forLoop K t body els ys σ'
 | [],σ,h=>by cases h; rfl
 | d :: r,σ,h=>by
  simp only [runL] at h
  rw [List.cons_append,forLoop]
  cases hb:bindT K t d σ with
  | none=>rw [hb] at h; cases h
  | some σ1=>
   rw [hb] at h
   simp only at h ⊢
   cases hx:body σ1 with
   | none=>rw [hx] at h; cases h
   | some q=>
    obtain ⟨f,σ2⟩:=q
    rw [hx] at h
    cases f <;> first | exact forLoop_run r σ2 h | cases h
noncomputable def wsC (s:List Nat):List Int × Int × Int × Int:=s.foldl (fun w c=>bif c == 32 then (w.1,w.2.1 + 1,w.2.2.1 + 1,w.2.2.2)
 else
  let l:=bif decide (w.2.1 ≥ w.1.length) then w.1 ++ List.replicate (w.2.1 - w.1.length + 1).toNat 0 else w.1
  (l.set w.2.1.toNat (l.getD w.2.1.toNat 0 + 1),0,w.2.2.1 + 1,w.2.2.2 + 1)) ([],0,0,0)
noncomputable def wC (r:Nat):List Int:=(wsC (ld r)).1
noncomputable def wb (r:Nat):Int:=(wsC (ld r)).2.1
noncomputable def wn (r:Nat):Int:=(wsC (ld r)).2.2.1
noncomputable def wt (r:Nat):Int:=(wsC (ld r)).2.2.2
section
variable (c m:Nm → List PV → Option PV)
noncomputable abbrev inG:Gl:=GD c m inD
noncomputable abbrev wi4 (text:List Nat) (l:List PV) (b n t:Int) (X:Sg):Sg:=[(nm "self",.self [(nm "raw",.str text)]),(nm "ws",.fz (.str text)),(nm "S",.fz (.str [32])),(nm "T",.fz (.str [9])),(nm "count",.own l),(nm "b",.fz (.int b)),(nm "n",.fz (.int n)),(nm "nt",.fz (.int t))] ++ X
theorem in_0 (text:List Nat):exs (inG c m) inB [(nm "self",.self []),(nm "ws",.fz (.str text))]=exs (inG c m) (dropS inB 4) (wi4 text [] 0 0 0 []):=by
 refine (xs_at (b:=inB) 0 (by kernel_rfl) (?_:_=some (Fl.next,[(nm "self",.self [(nm "raw",.str text)]),(nm "ws",.fz (.str text))]))).trans
   ((xs_at (b:=inB) 1 (by kernel_rfl) (?_:_=some (Fl.next,[(nm "self",.self [(nm "raw",.str text)]),(nm "ws",.fz (.str text)),(nm "S",.fz (.str [32])),(nm "T",.fz (.str [9]))]))).trans
  ((xs_at (b:=inB) 2 (by kernel_rfl) (?_:_=some (Fl.next,[(nm "self",.self [(nm "raw",.str text)]),(nm "ws",.fz (.str text)),(nm "S",.fz (.str [32])),(nm "T",.fz (.str [9])),(nm "count",.own [])]))).trans
     (xs_at (b:=inB) 3 (by kernel_rfl) ?_))) <;> kernel_rfl
theorem in_4 (text:List Nat):ex (inG c m) (stm inB 4) (wi4 text [] 0 0 0 [])=forLoop (inG c m).sc (tgtS (stm inB 4)) (exs (inG c m) chB) (exs (inG c m) (elseS (stm inB 4))) (text.map fun x=>.str [x]) (wi4 text [] 0 0 0 []):=by kernel_rfl
noncomputable def chX (r:Nat):Sg:=match (ld r).getLast? with
 | none=>[]
 | some x=>[(nm "ch",.fz (.str [x]))]
theorem in_tab (text:List Nat):(List.range 37).map (fun r=>runL (inG c m).sc (tgtS (stm inB 4)) (exs (inG c m) chB) ((ld r).map fun x=>.str [x]) (wi4 text [] 0 0 0 []))=(List.range 37).map fun r=>some (wi4 text ((wC r).map .int) (wb r) (wn r) (wt r) (chX r)):=by kernel_rfl
noncomputable def eqR (x y:Nat):Option Bool:=trV (chainE [.Eq] (some (.v (.str [x]))) [some (.v (.str [y]))])
theorem ch_if (text:List Nat) (l:List PV) (b n t:Int) (x:Nat):exs (inG c m) chB (wi4 text l b n t [(nm "ch",.fz (.str [x]))]) =
  thn (ifC (eqR x 32) (exs (inG c m) (bodyS (stm chB 0)) (wi4 text l b n t [(nm "ch",.fz (.str [x]))])) (thn (ifC (eqR x 9) (exs (inG c m) (bodyS (stm (elseS (stm chB 0)) 0)) (wi4 text l b n t [(nm "ch",.fz (.str [x]))])) (some (.brk,wi4 text l b n t [(nm "ch",.fz (.str [x]))]))))):=by kernel_rfl
theorem ch_tab:(List.range 26).map (fun t=>(eqR (97 + t) 32,eqR (97 + t) 9))=(List.range 26).map fun t=>(some false,some false):=by kernel_rfl
theorem ch_bind (text:List Nat) (l:List PV) (b n t:Int) (x:Nat):bindT (inG c m).sc (tgtS (stm inB 4)) (.str [x]) (wi4 text l b n t [])=some (wi4 text l b n t [(nm "ch",.fz (.str [x]))]):=by kernel_rfl
theorem ch_bind' (text:List Nat) (l:List PV) (b n t:Int) (x y:Nat):bindT (inG c m).sc (tgtS (stm inB 4)) (.str [x]) (wi4 text l b n t [(nm "ch",.fz (.str [y]))])=some (wi4 text l b n t [(nm "ch",.fz (.str [x]))]):=by kernel_rfl
noncomputable def wI (text:List Nat) (r:Nat):List (List Nat × PV):=[(nm "raw",.str text),(nm "n",.int (wn r)),(nm "nt",.int (wt r)),(nm "norm",.tuple [.tuple ((wC r).map .int),.int (wb r)]),(nm "is_simple",.bool (decide (((wC r).length:Int) ≤ 1)))]
noncomputable def wE (text:List Nat) (r:Nat) (X:Sg):Sg:=[(nm "self",.self (wI text r)),(nm "ws",.fz (.str text)),(nm "S",.fz (.str [32])),(nm "T",.fz (.str [9])),(nm "count",.own ((wC r).map .int)),(nm "b",.fz (.int (wb r))),(nm "n",.fz (.int (wn r))),(nm "nt",.fz (.int (wt r)))] ++ X
theorem in_end (text:List Nat) (X:Sg):(List.range 37).map (fun r=>exs (inG c m) (dropS inB 5) (wi4 text ((wC r).map .int) (wb r) (wn r) (wt r) X))=(List.range 37).map fun r=>some (.next,wE text r X):=by kernel_rfl
theorem els_4 (σ:Sg):exs (inG c m) (elseS (stm inB 4)) σ=some (.next,σ):=by kernel_rfl
theorem in_run {r:Nat} (hr:r < 37) (rest:List Nat) (h:rest=[] ∨ ∃ t,t < 26 ∧ rest=[97 + t]):∃ X,exs (inG c m) inB [(nm "self",.self []),(nm "ws",.fz (.str (ld r ++ rest)))]=some (.next,wE (ld r ++ rest) r X):=by
 have h4:∃ X,ex (inG c m) (stm inB 4) (wi4 (ld r ++ rest) [] 0 0 0 [])=some (.next,wi4 (ld r ++ rest) ((wC r).map .int) (wb r) (wn r) (wt r) X):=by
  have e:=get_tab (in_tab c m (ld r ++ rest)) hr
  rcases h with rfl | ⟨t,ht,rfl⟩
  ·refine ⟨chX r,?_⟩
   rw [in_4,List.map_append,forLoop_run _ _ e]
   exact els_4 c m _
  ·refine ⟨[(nm "ch",.fz (.str [97 + t]))],?_⟩
   rw [in_4,List.map_append,forLoop_run _ _ e]
   have hb:bindT (inG c m).sc (tgtS (stm inB 4)) (.str [97 + t]) (wi4 (ld r ++ [97 + t]) ((wC r).map .int) (wb r) (wn r) (wt r) (chX r))=some (wi4 (ld r ++ [97 + t]) ((wC r).map .int) (wb r) (wn r) (wt r) [(nm "ch",.fz (.str [97 + t]))]):=by
    unfold chX
    cases (ld r).getLast? with
    | none=>exact ch_bind c m _ _ _ _ _ _
    | some x=>exact ch_bind' c m _ _ _ _ _ _ _
   have:=get_tab ch_tab ht
   simp only [Prod.mk.injEq] at this
   simp only [List.map_cons,List.map_nil,forLoop,hb,ch_if,this.1,this.2]
   rfl
 obtain ⟨X,h4⟩:=h4
 refine ⟨X,?_⟩
 rw [in_0,xs_at (b:=inB) 4 (by kernel_rfl) h4]
 exact get_tab (in_end c m (ld r ++ rest) X) hr
end
theorem ws_eq (n:Nat) {r:Nat} (hr:r < 37) (rest:List Nat) (h:rest=[] ∨ ∃ t,t < 26 ∧ rest=[97 + t]):(O (n + 1)).call n_Whitespace [.str (ld r ++ rest)]=some (.inst (wI (ld r ++ rest) r)):=by
 obtain ⟨X,h⟩:=in_run (O n).call (O n).meth hr rest h
 have e:(O (n + 1)).call n_Whitespace [.str (ld r ++ rest)]=madeOf (nm "self") (exs (inG (O n).call (O n).meth) inB [(nm "self",.self []),(nm "ws",.fz (.str (ld r ++ rest)))]):=by kernel_rfl
 rw [e,h]
 kernel_rfl
noncomputable def lrP (r:Nat):Int:=bif decide (((wC r).length:Int) - 1 < wb r) then wb r else (wC r).length - 1
noncomputable def ilP (r:Nat) (ts:Int):Int:=wb r + ts * ((((List.range (wC r).length).filter fun (i:Nat)=>decide (ts ≤ (i:Int))).foldl (fun (s:Int) (i:Nat)=>s + ((i:Int).fdiv ts) * (wC r).getD i 0) 0) + wt r)
theorem lr_tab (n:Nat) (text:List Nat):(List.range 37).map (fun r=>(O (n + 1)).meth (nm "longest_run_of_spaces") [.inst (wI text r)])=(List.range 37).map fun r=>some (.int (lrP r)):=by kernel_rfl
noncomputable def ts4:List Int:=[2,3,4,5]
theorem il_tab (n:Nat) (text:List Nat):(List.range 37).map (fun r=>ts4.map fun k=>(O (n + 1)).meth (nm "indent_level") [.inst (wI text r),.int k])=(List.range 37).map fun r=>ts4.map fun k=>some (.int (ilP r k)):=by kernel_rfl
theorem lr_eq (n:Nat) (text:List Nat) {r:Nat} (h:r < 37):(O (n + 1)).meth (nm "longest_run_of_spaces") [.inst (wI text r)]=some (.int (lrP r)):=get_tab (lr_tab n text) h
theorem il_eq (n:Nat) (text:List Nat) {r:Nat} {k:Int} (h:r < 37) (hk:k ∈ ts4):(O (n + 1)).meth (nm "indent_level") [.inst (wI text r),.int k]=some (.int (ilP r k)):=get_in (get_tab (il_tab n text) h) hk
noncomputable def lsB:List S:=(mdf (nm "less")).body
section
variable (c m:Nm → List PV → Option PV)
noncomputable abbrev lsG:Gl:=GD c m (mdf (nm "less"))
noncomputable abbrev sl0 (a b:PV):Sg:=[(nm "self",.fz a),(nm "other",.fz b)]
noncomputable abbrev sl1 (a b:PV) (n:Int):Sg:=sl0 a b ++ [(nm "n",.fz (.int n))]
noncomputable abbrev sl2 (a b:PV) (n ts:Int):Sg:=sl1 a b n ++ [(nm "ts",.fz (.int ts))]
theorem ls_0 (ta tb:List Nat) (r q:Nat):ex (lsG c m) (stm lsB 0) (sl0 (.inst (wI ta r)) (.inst (wI tb q)))=ifC (some (decide (wn r ≥ wn q))) (some (.ret (.bool false),sl0 (.inst (wI ta r)) (.inst (wI tb q)))) (some (.next,sl0 (.inst (wI ta r)) (.inst (wI tb q)))):=by kernel_rfl
noncomputable def andC (a b:Option Bool):Option Bool:=a.bind fun t=>bif t then b.bind fun t=>bif t then some true else some false else some false
theorem ls_1 (ta tb:List Nat) (r q:Nat):ex (lsG c m) (stm lsB 1) (sl0 (.inst (wI ta r)) (.inst (wI tb q)))=ifC (andC (some (decide (((wC r).length:Int) ≤ 1))) (some (decide (((wC q).length:Int) ≤ 1)))) (some (.ret (.bool (decide (wt r ≤ wt q))),sl0 (.inst (wI ta r)) (.inst (wI tb q)))) (some (.next,sl0 (.inst (wI ta r)) (.inst (wI tb q)))):=by kernel_rfl
noncomputable def mxR (a b:Option PV):Option EV:=(eachPV [a.map EV.v,b.map EV.v]).bind fun l=>(builtinP n_max l).bind mkV
theorem ls_2 (ta tb:List Nat) (r q:Nat):ex (lsG c m) (stm lsB 2) (sl0 (.inst (wI ta r)) (.inst (wI tb q)))=asgR (lsG c m) (nm "n") (valS (stm lsB 2)) (sl0 (.inst (wI ta r)) (.inst (wI tb q))) (binR .Add (mxR (m (nm "longest_run_of_spaces") [.inst (wI ta r)]) (m (nm "longest_run_of_spaces") [.inst (wI tb q)])) (some (.v (.int 1)))):=by kernel_rfl
theorem ls_2e (a b:PV) (n:Int):asgR (lsG c m) (nm "n") (valS (stm lsB 2)) (sl0 a b) (some (.v (.int n)))=some (.next,sl1 a b n):=by kernel_rfl
noncomputable def n5:List Int:=[1,2,3,4,5]
noncomputable def tsL (n:Int):List Int:=ts4.filter fun k=>decide (k ≤ n)
theorem ls_3 (a b:PV):n5.map (fun n=>ex (lsG c m) (stm lsB 3) (sl1 a b n))=n5.map fun n=>forLoop (lsG c m).sc (tgtS (stm lsB 3)) (exs (lsG c m) (bodyS (stm lsB 3))) (exs (lsG c m) (elseS (stm lsB 3))) ((tsL n).map .int) (sl1 a b n):=by kernel_rfl
theorem ls_b1 (a b:PV) (n ts:Int):bindT (lsG c m).sc (tgtS (stm lsB 3)) (.int ts) (sl1 a b n)=some (sl2 a b n ts):=by kernel_rfl
theorem ls_b2 (a b:PV) (n ts ts':Int):bindT (lsG c m).sc (tgtS (stm lsB 3)) (.int ts) (sl2 a b n ts')=some (sl2 a b n ts):=by kernel_rfl
noncomputable def geR (a b:Option PV):Option Bool:=trV (chainE [.GtE] (a.map EV.v) [b.map EV.v])
theorem ls_3e (ta tb:List Nat) (r q:Nat) (n ts:Int):exs (lsG c m) (bodyS (stm lsB 3)) (sl2 (.inst (wI ta r)) (.inst (wI tb q)) n ts)=thn (ifC (geR (m (nm "indent_level") [.inst (wI ta r),.int ts]) (m (nm "indent_level") [.inst (wI tb q),.int ts])) (some (.ret (.bool false),sl2 (.inst (wI ta r)) (.inst (wI tb q)) n ts)) (some (.next,sl2 (.inst (wI ta r)) (.inst (wI tb q)) n ts))):=by kernel_rfl
theorem ls_4 (a b:PV) (n:Int):exs (lsG c m) (dropS lsB 4) (sl1 a b n)=some (.ret (.bool true),sl1 a b n):=by kernel_rfl
theorem ls_4' (a b:PV) (n ts:Int):exs (lsG c m) (dropS lsB 4) (sl2 a b n ts)=some (.ret (.bool true),sl2 a b n ts):=by kernel_rfl
theorem ls_els (σ:Sg):exs (lsG c m) (elseS (stm lsB 3)) σ=some (.next,σ):=by kernel_rfl
end
noncomputable def lessP (r q:Nat):Bool:=bif decide (wn r ≥ wn q) then false else bif decide (((wC r).length:Int) ≤ 1) && decide (((wC q).length:Int) ≤ 1) then decide (wt r ≤ wt q)
 else (tsL ((bif decide (lrP r < lrP q) then lrP q else lrP r) + 1)).all fun k=>!decide (ilP r k ≥ ilP q k)
theorem less_tab:(List.range 37).all (fun r=>(List.range 37).all fun q=>lessP r q == fB (cI r) (cI q))=true:=by kernel_rfl
theorem lr_small:(List.range 37).all (fun r=>decide (0 ≤ lrP r) && decide (lrP r ≤ 4))=true:=by kernel_rfl
noncomputable def leP (r q:Nat) (L:List Int):Bool:=L.all fun k=>!decide (ilP r k ≥ ilP q k)
theorem ls_loop (n:Nat) (ta tb:List Nat) {r q:Nat} (hr:r < 37) (hq:q < 37) (v:Int):∀ (L:List Int) (ts:Int),(∀ k ∈ L,k ∈ ts4) →
  forLoop (lsG (O (n + 1)).call (O (n + 1)).meth).sc (tgtS (stm lsB 3)) (exs (lsG (O (n + 1)).call (O (n + 1)).meth) (bodyS (stm lsB 3))) (exs (lsG (O (n + 1)).call (O (n + 1)).meth) (elseS (stm lsB 3))) (L.map .int) (sl2 (.inst (wI ta r)) (.inst (wI tb q)) v ts) =
   bif leP r q L then some (.next,sl2 (.inst (wI ta r)) (.inst (wI tb q)) v (L.getLastD ts)) else some (.ret (.bool false),sl2 (.inst (wI ta r)) (.inst (wI tb q)) v ((L.find? fun k=>decide (ilP r k ≥ ilP q k)).getD 0))
 | [],ts,_=>ls_els _ _ _
 | k :: L,ts,h=>by
  have hk:=h k (.head _)
  rw [List.map_cons,forLoop,ls_b2]
  simp only
  rw [ls_3e,il_eq n ta hr hk,il_eq n tb hq hk,show geR (some (.int (ilP r k))) (some (.int (ilP q k)))=some (decide (ilP r k ≥ ilP q k)) from rfl]
  cases hd:decide (ilP r k ≥ ilP q k)
  ·have ih:=ls_loop n ta tb hr hq v L k fun z hz=>h z (.tail _ hz)
   simp only [ifC_t,ifC_f,thn_next]
   rw [ih]
   simp only [leP,List.all_cons,hd,Bool.not_false,Bool.true_and,List.find?_cons,List.getLastD_cons]
  ·simp only [ifC_t,ifC_f,leP,List.all_cons,hd,Bool.not_true,Bool.false_and,cond_false,List.find?_cons,Option.getD_some]
   rfl
theorem mem_n5 {x:Int} (h:0 ≤ x) (g:x ≤ 4):x + 1 ∈ n5:=by
 obtain ⟨k,rfl⟩:=Int.eq_ofNat_of_zero_le h
 exact (by decide:∀ k ∈ List.range 5,((k:Nat):Int) + 1 ∈ n5) k (List.mem_range.mpr (Nat.lt_succ_of_le (Int.ofNat_le.mp g)))
theorem less_eq (n:Nat) (ta tb:List Nat) {r q:Nat} (hr:r < 37) (hq:q < 37):(O (n + 2)).meth (nm "less") [.inst (wI ta r),.inst (wI tb q)]=some (.bool (lessP r q)):=by
 refine call_meth (D:=mdf (nm "less")) (by kernel_rfl) (by kernel_rfl) ?_
 show retOf (exs (lsG (O (n + 1)).call (O (n + 1)).meth) lsB (zipArgs (mdf (nm "less")).params [.inst (wI ta r),.inst (wI tb q)]))=_
 have e0:zipArgs (mdf (nm "less")).params [.inst (wI ta r),.inst (wI tb q)]=sl0 (.inst (wI ta r)) (.inst (wI tb q)):=by kernel_rfl
 rw [e0]
 show retOf (exs _ (dropS lsB 0) _)=_
 unfold lessP
 cases h0:decide (wn r ≥ wn q)
 ·have s0:=ls_0 (O (n + 1)).call (O (n + 1)).meth ta tb r q
  rw [h0] at s0
  rw [xs_at (b:=lsB) 0 (by kernel_rfl) s0]
  have s1:=ls_1 (O (n + 1)).call (O (n + 1)).meth ta tb r q
  cases h1:decide (((wC r).length:Int) ≤ 1) && decide (((wC q).length:Int) ≤ 1)
  ·have hand:andC (some (decide (((wC r).length:Int) ≤ 1))) (some (decide (((wC q).length:Int) ≤ 1)))=some false:=by
    revert h1
    cases decide (((wC r).length:Int) ≤ 1) <;> cases decide (((wC q).length:Int) ≤ 1) <;> intro h1 <;> first | rfl | cases h1
   rw [hand] at s1
   have s2:=ls_2 (O (n + 1)).call (O (n + 1)).meth ta tb r q
   rw [lr_eq n ta hr,lr_eq n tb hq,show binR .Add (mxR (some (.int (lrP r))) (some (.int (lrP q)))) (some (.v (.int 1)))=some (.v (.int ((bif decide (lrP r < lrP q) then lrP q else lrP r) + 1))) from rfl,ls_2e] at s2
   rw [xs_at (b:=lsB) 1 (by kernel_rfl) s1,xs_at (b:=lsB) 2 (by kernel_rfl) s2]
   have b1:=List.all_eq_true.mp lr_small r (List.mem_range.mpr hr)
   have b2:=List.all_eq_true.mp lr_small q (List.mem_range.mpr hq)
   simp only [Bool.and_eq_true,decide_eq_true_eq] at b1 b2
   generalize hv:(bif decide (lrP r < lrP q) then lrP q else lrP r) + 1=v
   have hm:v ∈ n5:=by
    subst hv
    cases decide (lrP r < lrP q)
    ·exact mem_n5 b1.1 b1.2
    ·exact mem_n5 b2.1 b2.2
   have s3:=get_in (ls_3 (O (n + 1)).call (O (n + 1)).meth (.inst (wI ta r)) (.inst (wI tb q))) hm
   have hts:∀ k ∈ tsL v,k ∈ ts4:=fun k hk=>(List.mem_filter.mp hk).1
   simp only [cond_false]
   show _=some (PV.bool (leP r q (tsL v)))
   cases hL:tsL v with
   | nil=>
    rw [hL] at s3
    rw [List.map_nil,forLoop,ls_els] at s3
    rw [xs_at (b:=lsB) 3 (by kernel_rfl) s3,ls_4]
    rfl
   | cons k L=>
    rw [hL] at s3 hts
    have l1:=ls_loop n ta tb hr hq v (k :: L) k hts
    have e:∀ els,forLoop (lsG (O (n + 1)).call (O (n + 1)).meth).sc (tgtS (stm lsB 3)) (exs (lsG (O (n + 1)).call (O (n + 1)).meth) (bodyS (stm lsB 3))) els ((k :: L).map .int) (sl1 (.inst (wI ta r)) (.inst (wI tb q)) v) =
      forLoop (lsG (O (n + 1)).call (O (n + 1)).meth).sc (tgtS (stm lsB 3)) (exs (lsG (O (n + 1)).call (O (n + 1)).meth) (bodyS (stm lsB 3))) els ((k :: L).map .int) (sl2 (.inst (wI ta r)) (.inst (wI tb q)) v k):=fun els=>by
     rw [List.map_cons,forLoop,forLoop,ls_b1,ls_b2]
    rw [e,l1] at s3
    cases hp:leP r q (k :: L)
    ·rw [hp] at s3
     rw [xs_ret (b:=lsB) 3 (by kernel_rfl) s3]
     rfl
    ·rw [hp] at s3
     rw [xs_at (b:=lsB) 3 (by kernel_rfl) s3,ls_4']
     rfl
  ·have hand:andC (some (decide (((wC r).length:Int) ≤ 1))) (some (decide (((wC q).length:Int) ≤ 1)))=some true:=by
    revert h1
    cases decide (((wC r).length:Int) ≤ 1) <;> cases decide (((wC q).length:Int) ≤ 1) <;> intro h1 <;> first | rfl | cases h1
   rw [hand] at s1
   rw [xs_ret (b:=lsB) 1 (by kernel_rfl) s1]
   rfl
 ·have s0:=ls_0 (O (n + 1)).call (O (n + 1)).meth ta tb r q
  rw [h0] at s0
  rw [xs_ret (b:=lsB) 0 (by kernel_rfl) s0]
  rfl
theorem less_law {r q:Nat} (hr:r < 37) (hq:q < 37):lessP r q=fB (cI r) (cI q):=by
 have:=List.all_eq_true.mp (List.all_eq_true.mp less_tab r (List.mem_range.mpr hr)) q (List.mem_range.mpr hq)
 exact beq_iff_eq.mp this
noncomputable def siB:List S:=(df n_sides).body
noncomputable def stB:List S:=bodyS (stm siB 1)
noncomputable def mgB:List S:=bodyS (stm stB 1)
noncomputable def upd {α:Type} (f:Nat → α) (c:Nat) (a:α):Nat → α:=fun j=>bif j == c then a else f j
noncomputable def pairs:List (Nat × Nat):=[(1,0),(2,0),(2,1),(3,0),(3,1),(3,2),(4,0),(4,1),(4,2),(4,3),(5,0),(5,1),(5,2),(5,3),(5,4),(6,0),(6,1),(6,2),(6,3),(6,4),(6,5)]
theorem pair_mem {i c:Nat} (h:c < i) (hi:i < 7):(i,c) ∈ pairs:=by
 exact (by decide:∀ i ∈ List.range 7,∀ c ∈ List.range i,(i,c) ∈ pairs) i (List.mem_range.mpr hi) c (List.mem_range.mpr h)
theorem upd_self {α:Type} (f:Nat → α) (c:Nat):upd f c (f c)=f:=by
 funext j
 unfold upd
 cases h:j == c
 ·rfl
 ·rw [beq_iff_eq.mp h]; rfl
noncomputable def rowV (tx:Nat → List Nat) (o:Nat → Int):List PV:=seven fun i=>.tuple [.str (tx i),.int (o i)]
noncomputable def upsV (u:Nat → Int):List PV:=seven fun i=>.int (u i)
section
variable (cc m:Nm → List PV → Option PV)
noncomputable abbrev siG:Gl:=GD cc m (df n_sides)
noncomputable abbrev ss1 (tx:Nat → List Nat) (o u:Nat → Int) (Q:List PV):Sg:=[(nm "rows",.fz (.list (rowV tx o))),(nm "ups",.fz (.list (upsV u))),(nm "sides",.own Q)]
noncomputable abbrev ss2 (tx:Nat → List Nat) (o u:Nat → Int) (Q:List PV) (t:Int) (X:Sg):Sg:=ss1 tx o u Q ++ (nm "turn",.fz (.int t)) :: X
noncomputable abbrev xs3 (s:Nat → List PV) (X:Sg):Sg:=(nm "sets",.own (seven fun j=>.list (s j))) :: X
theorem si_0 (tx:Nat → List Nat) (o u:Nat → Int):exs (siG cc m) siB [(nm "rows",.fz (.list (rowV tx o))),(nm "ups",.fz (.list (upsV u)))]=exs (siG cc m) (dropS siB 1) (ss1 tx o u []):=xs_at (b:=siB) 0 (by kernel_rfl) (by kernel_rfl)
theorem si_1 (tx:Nat → List Nat) (o u:Nat → Int) (Q:List PV):ex (siG cc m) (stm siB 1) (ss1 tx o u Q)=forLoop (siG cc m).sc (tgtS (stm siB 1)) (exs (siG cc m) stB) (exs (siG cc m) (elseS (stm siB 1))) [.int 0,.int 1] (ss1 tx o u Q):=by kernel_rfl
theorem si_b1 (tx:Nat → List Nat) (o u:Nat → Int) (Q:List PV) (t:Int):bindT (siG cc m).sc (tgtS (stm siB 1)) (.int t) (ss1 tx o u Q)=some (ss2 tx o u Q t []):=by kernel_rfl
theorem si_b2 (tx:Nat → List Nat) (o u:Nat → Int) (Q:List PV) (t t':Int) (X:Sg):bindT (siG cc m).sc (tgtS (stm siB 1)) (.int t) (ss2 tx o u Q t' X)=some (ss2 tx o u Q t X):=by kernel_rfl
noncomputable def lcF (G:Gl) (e:E) (σ:Sg) (d:PV):Option (List PV):=match e with
 | .comp elt g [] sc _=>compTurn sc.names (gen1 { G with sc:=sc.names } g) (compRun sc.names (ev { G with sc:=sc.names } elt) []) (inner sc σ) d
 | _=>none
noncomputable abbrev ss4 (tx:Nat → List Nat) (o u:Nat → Int) (Q:List PV) (t:Int) (s:Nat → List PV) (i:Int):Sg:=ss2 tx o u Q t (xs3 s [(nm "i",.fz (.int i))])
theorem st_0 (tx:Nat → List Nat) (o u:Nat → Int) (Q:List PV) (t:Int) (X:Sg):ex (siG cc m) (stm stB 0) (ss2 tx o u Q t X)=asgR (siG cc m) (nm "sets") (valS (stm stB 0)) (ss2 tx o u Q t X) ((compLoop (lcF (siG cc m) (valS (stm stB 0)) (ss2 tx o u Q t X)) (rowV tx o)).bind fun l=>mkV (.list l)):=by kernel_rfl
theorem st_0e (tx:Nat → List Nat) (o u:Nat → Int) (Q:List PV) (t:Int) (s:Nat → List PV):asgR (siG cc m) (nm "sets") (valS (stm stB 0)) (ss2 tx o u Q t []) (some (.v (.list (seven fun j=>.list (s j)))))=some (.next,ss2 tx o u Q t (xs3 s [])):=by kernel_rfl
theorem st_0e' (tx:Nat → List Nat) (o u:Nat → Int) (Q:List PV) (t:Int) (s s':Nat → List PV) (i:Int):asgR (siG cc m) (nm "sets") (valS (stm stB 0)) (ss4 tx o u Q t s' i) (some (.v (.list (seven fun j=>.list (s j)))))=some (.next,ss4 tx o u Q t s i):=by kernel_rfl
noncomputable def ordR (o:Option EV):Option EV:=(eachPV [o]).bind fun l=>(builtinP n_ord l).bind mkV
noncomputable abbrev oneR (o:Option EV):Option (List PV):=oneO o
noncomputable def leafR (q:Option Nat):Option (List PV):=oneR ((eachV [binR .LShift (some (.v (.int 1))) (binR .Sub (ordR (q.map fun c=>.v (.str [c]))) (some (.v (.int 97))))]).bind fun l=>mkV (.list l))
noncomputable abbrev evC (b:Option Bool) (x y:Option EV):Option EV:=ifE b x y
theorem st_leaf (tx:Nat → List Nat) (o u:Nat → Int) (Q:List PV) (t:Int) (l:List Nat):lcF (siG cc m) (valS (stm stB 0)) (ss2 tx o u Q t []) (.tuple [.str l,.int 0])=leafR (atI l (-1)):=by kernel_rfl
theorem st_leaf' (tx:Nat → List Nat) (o u:Nat → Int) (Q:List PV) (t:Int) (s:Nat → List PV) (i:Int) (l:List Nat):lcF (siG cc m) (valS (stm stB 0)) (ss4 tx o u Q t s i) (.tuple [.str l,.int 0])=leafR (atI l (-1)):=by kernel_rfl
theorem leaf_tab:(List.range 26).map (fun t=>leafR (some (97 + t)))=(List.range 26).map fun t=>some [.list [.int (2 ^ t:Nat)]]:=by kernel_rfl
noncomputable def nodeR (a:Option Bool) (b:Option Bool) (x:Option EV):Option (List PV):=oneR (evC a x (evC b (some (.v (.list [.int 0]))) (some (.v (.list [])))))
theorem st_node (tx:Nat → List Nat) (o u:Nat → Int) (Q:List PV) (t:Int) (l:List Nat) (q:Int):lcF (siG cc m) (valS (stm stB 0)) (ss2 tx o u Q t []) (.tuple [.str l,.int q])=nodeR (some (q == 0)) (some ((q + t).fmod 2 == 1)) ((eachV [binR .LShift (some (.v (.int 1))) (binR .Sub (ordR ((atI l (-1)).map fun c=>.v (.str [c]))) (some (.v (.int 97))))]).bind fun l=>mkV (.list l)):=by kernel_rfl
theorem st_node' (tx:Nat → List Nat) (o u:Nat → Int) (Q:List PV) (t:Int) (s:Nat → List PV) (i:Int) (l:List Nat) (q:Int):lcF (siG cc m) (valS (stm stB 0)) (ss4 tx o u Q t s i) (.tuple [.str l,.int q])=nodeR (some (q == 0)) (some ((q + t).fmod 2 == 1)) ((eachV [binR .LShift (some (.v (.int 1))) (binR .Sub (ordR ((atI l (-1)).map fun c=>.v (.str [c]))) (some (.v (.int 97))))]).bind fun l=>mkV (.list l)):=by kernel_rfl
theorem st_1 (tx:Nat → List Nat) (o u:Nat → Int) (Q:List PV) (t:Int) (s:Nat → List PV) (X:Sg):ex (siG cc m) (stm stB 1) (ss2 tx o u Q t (xs3 s X))=forLoop (siG cc m).sc (tgtS (stm stB 1)) (exs (siG cc m) mgB) (exs (siG cc m) (elseS (stm stB 1))) [.int 6,.int 5,.int 4,.int 3,.int 2,.int 1] (ss2 tx o u Q t (xs3 s X)):=by kernel_rfl
theorem st_b1 (tx:Nat → List Nat) (o u:Nat → Int) (Q:List PV) (t:Int) (s:Nat → List PV) (i:Int):bindT (siG cc m).sc (tgtS (stm stB 1)) (.int i) (ss2 tx o u Q t (xs3 s []))=some (ss4 tx o u Q t s i):=by kernel_rfl
theorem st_b2 (tx:Nat → List Nat) (o u:Nat → Int) (Q:List PV) (t:Int) (s:Nat → List PV) (i i':Int):bindT (siG cc m).sc (tgtS (stm stB 1)) (.int i) (ss4 tx o u Q t s i')=some (ss4 tx o u Q t s i):=by kernel_rfl
theorem st_2 (tx:Nat → List Nat) (o u:Nat → Int) (Q:List PV) (t:Int) (s:Nat → List PV) (i:Int):ex (siG cc m) (stm stB 2) (ss4 tx o u Q t s i)=appL Q (some (.v (.list (s 0)))) fun Q=>ss4 tx o u Q t s i:=by kernel_rfl
noncomputable def setEP (o:Option EV) (c:Int) (f:PV → Sg):Rs:=nextR ((valO o).bind fun d=>some (f d))
noncomputable def mulG (G:Gl) (σ:Sg) (a b:PV):Option (List PV):=match valS (stm (bodyS (stm mgB 0)) 0) with
 | .comp elt (.mk t _ _) [.mk t' _ _] sc _=>match bindC sc.names t a (inner sc σ) with
  | none=>none
  | some σ'=>match bindC sc.names t' b σ' with
   | none=>none
   | some σ'=>oneR (ev { G with sc:=sc.names } elt σ')
 | _=>none
noncomputable def addL (a b:List PV):Option EV:=((catN a b).map PV.list).map .v
theorem mg_tab (tx:Nat → List Nat) (o u:Nat → Int) (Q:List PV) (t:Int) (s:Nat → List PV):pairs.map (fun x=>exs (siG cc m) mgB (ss4 tx o (upd u x.1 x.2) Q t s x.1))=pairs.map fun x=>
  thn (ifC (some ((o x.2 + t).fmod 2 == 1))
   (thn (setEP ((compLoop (fun a=>compLoop (fun b=>mulG (siG cc m) (ss4 tx o (upd u x.1 x.2) Q t s x.1) a b) (s x.1)) (s x.2)).bind fun l=>mkV (.list l)) x.2 fun d=>ss2 tx o (upd u x.1 x.2) Q t ((nm "sets",.own (seven (upd (fun j=>.list (s j)) x.2 d))) :: [(nm "i",.fz (.int x.1))])))
   (thn (setEP (addL (s x.2) (s x.1)) x.2 fun d=>ss2 tx o (upd u x.1 x.2) Q t ((nm "sets",.own (seven (upd (fun j=>.list (s j)) x.2 d))) :: [(nm "i",.fz (.int x.1))])))):=by kernel_rfl
theorem mul_e (tx:Nat → List Nat) (o u:Nat → Int) (Q:List PV) (t:Int) (s:Nat → List PV) (i x y:Int):mulG (siG cc m) (ss4 tx o u Q t s i) (.int x) (.int y)=some [.int (Builtin.bitOr x y)]:=by kernel_rfl
theorem si_2 (tx:Nat → List Nat) (o u:Nat → Int) (Q:List PV) (t:Int) (X:Sg):exs (siG cc m) (dropS siB 2) (ss2 tx o u Q t X)=some (.ret (.list Q),ss2 tx o u Q t X):=by kernel_rfl
end
noncomputable def mgP (a:Bool) (x y:List Nat):List Nat:=bif a then x.flatMap fun p=>y.map fun q=>p ||| q else x ++ y
noncomputable def stepU (a:Nat → Bool) (v:Nat → Nat) (s:Nat → List Nat) (i:Nat):Nat → List Nat:=upd s (v i) (mgP (a (v i)) (s (v i)) (s i))
noncomputable def down:List Nat:=[6,5,4,3,2,1]
noncomputable def sidesP (a:Nat → Bool) (v:Nat → Nat) (s:Nat → List Nat):Nat → List Nat:=down.foldl (stepU a v) s
noncomputable def nPV (l:List Nat):List PV:=l.map fun (x:Nat)=>.int x
theorem compLoop_app {g:PV → Option (List PV)} {k:Nat → List PV} (h:∀ d:Nat,g (.int d)=some (k d)):∀ ds:List Nat,compLoop g (nPV ds)=some (ds.flatMap k)
 | []=>rfl
 | d :: r=>by
  have:=compLoop_app h r
  unfold nPV at this ⊢
  simp only [List.map_cons,compLoop,h,this,List.flatMap_cons]
noncomputable def sumW (w:Nat → Nat):Nat → Nat
 | 0=>0
 | n + 1=>sumW w n + w n
theorem sumW_upd (w:Nat → Nat) (c x:Nat):∀ n,sumW (upd w c (w c + x)) n=sumW w n + (if c < n then x else 0)
 | 0=>by simp [sumW]
 | n + 1=>by
  have ih:=sumW_upd w c x n
  simp only [sumW,ih]
  by_cases h:n=c
  ·subst h
   simp only [upd,beq_self_eq_true,cond_true,Nat.lt_irrefl,if_false,Nat.lt_succ_self,if_true]; exact (Nat.add_assoc _ _ _).symm
  ·have e:upd w c (w c + x) n=w n:=by unfold upd; rw [beq_eq_false_iff_ne.mpr h]; rfl
   rw [e]
   by_cases h1:c < n
   ·simp only [h1,if_true,show c < n + 1 by exact Nat.le_succ_of_le h1]; exact Nat.add_right_comm _ _ _
   ·simp only [h1,if_false,show ¬ c < n + 1 by omega]; exact rfl
theorem sumW_le (w:Nat → Nat):∀ {n i:Nat},i < n → w i ≤ sumW w n
 | n + 1,i,h=>by
  simp only [sumW]
  by_cases e:i=n
  ·subst e; exact Nat.le_add_left _ _
  ·have:=sumW_le w (n:=n) (i:=i) (by omega); exact Nat.le_trans this (Nat.le_add_right _ _)
theorem sumW_two (w:Nat → Nat):∀ {n i c:Nat},i < n → c < i → w c + w i ≤ sumW w n
 | n + 1,i,c,h,hc=>by
  simp only [sumW]
  by_cases e:i=n
  ·subst e
   have:=sumW_le w hc; exact Nat.add_le_add_right this _
  ·have:=sumW_two w (n:=n) (by omega) hc; exact Nat.le_trans this (Nat.le_add_right _ _)
theorem mgP_len (a:Bool) (x y:List Nat) (p q:Nat) (hp:1 ≤ p) (hq:1 ≤ q) (hx:x.length ≤ 2 ^ p) (hy:y.length ≤ 2 ^ q):(mgP a x y).length ≤ 2 ^ (p + q):=by
 unfold mgP
 cases a
 ·simp only [cond_false,List.length_append]
  have h1:2 ^ (p + q)=2 ^ p * 2 ^ q:=Nat.pow_add ..
  have h2:2 ≤ 2 ^ p:=(Nat.pow_le_pow_right (by decide) hp:2 ^ 1 ≤ 2 ^ p)
  have h3:2 ≤ 2 ^ q:=(Nat.pow_le_pow_right (by decide) hq:2 ^ 1 ≤ 2 ^ q)
  have h4:2 ^ p + 2 ^ q ≤ 2 ^ p * 2 ^ q:=by
   have a1:2 * 2 ^ q ≤ 2 ^ p * 2 ^ q:=Nat.mul_le_mul_right _ h2
   have a2:2 ^ p * 2 ≤ 2 ^ p * 2 ^ q:=Nat.mul_le_mul_left _ h3
   omega
  omega
 ·simp only [cond_true]
  have:(x.flatMap fun p=>y.map fun q=>p ||| q).length=x.length * y.length:=by
   induction x with
   | nil=>simp
   | cons z x ih=>
    have:=ih (by simp only [List.length_cons] at hx; exact Nat.le_of_lt hx)
    rw [List.flatMap_cons,List.length_append,this,List.length_map,List.length_cons,Nat.succ_mul]; exact Nat.add_comm _ _
  rw [this,Nat.pow_add]
  exact Nat.mul_le_mul hx hy
section
variable (cc m:Nm → List PV → Option PV)
theorem mg_eq (tx:Nat → List Nat) (o u:Nat → Int) (v:Nat → Nat) (Q:List PV) (t:Int) (s:Nat → List Nat) (i:Nat) (h1:1 ≤ i) (h6:i ≤ 6) (hu:u i=(v i:Int)) (hv:v i < i) (hl:(s (v i)).length ≤ 128 ∧ (s i).length ≤ 128) (b:Bool) (hb:((o (v i) + t).fmod 2 == 1)=b)
  (hm:(mgP b (s (v i)) (s i)).length ≤ 16777216):exs (siG cc m) mgB (ss4 tx o u Q t (fun j=>nPV (s j)) i)=some (.next,ss4 tx o u Q t (fun j=>nPV (upd s (v i) (mgP b (s (v i)) (s i)) j)) i):=by
 have h:=get_in (mg_tab cc m tx o u Q t (fun j=>nPV (s j))) (pair_mem hv (by exact Nat.lt_succ_of_le h6))
 simp only at h
 have hself:upd u i ((v i:Nat):Int)=u:=by rw [← hu]; exact upd_self u i
 rw [hself,hb] at h
 have hin:(seven fun j=>PV.list (nPV (upd s (v i) (mgP b (s (v i)) (s i)) j)))=seven (upd (fun j=>PV.list (nPV (s j))) (v i) (.list (nPV (mgP b (s (v i)) (s i))))):=by
  have:∀ j,PV.list (nPV (upd s (v i) (mgP b (s (v i)) (s i)) j))=upd (fun j=>PV.list (nPV (s j))) (v i) (.list (nPV (mgP b (s (v i)) (s i)))) j:=fun j=>by
   unfold upd; cases j == v i <;> rfl
  unfold seven
  simp only [this]
 rw [h]
 show _=some (Fl.next,ss2 tx o u Q t ((nm "sets",.own (seven fun j=>PV.list (nPV (upd s (v i) (mgP b (s (v i)) (s i)) j)))) :: [(nm "i",.fz (.int i))]))
 rw [hin]
 cases b
 ·simp only [ifC_t,ifC_f]
  have e:addL (nPV (s (v i))) (nPV (s i))=some (.v (.list (nPV (mgP false (s (v i)) (s i))))):=by
   unfold addL catN nPV mgP
   rw [List.length_map,List.length_map,small_of (by omega)]
   simp only [cond_true,cond_false,Option.map_some,List.map_append]
  rw [e]
  rfl
 ·simp only [ifC_t,ifC_f]
  have e2:∀ x:Nat,compLoop (fun b=>mulG (siG cc m) (ss4 tx o u Q t (fun j=>nPV (s j)) i) (.int x) b) (nPV (s i))=some (nPV ((s i).map fun q=>x ||| q)):=fun x=>by
   rw [compLoop_app (k:=fun y=>[.int ((x ||| y:Nat))]) fun y=>by rw [mul_e,or_nat]]
   unfold nPV
   rw [List.map_map,List.flatMap_def]
   congr 1
   induction s i with
   | nil=>rfl
   | cons y l ih=>simp only [List.map_cons,List.flatten_cons,ih,List.singleton_append,Function.comp]
  have e3:compLoop (fun a=>compLoop (fun b=>mulG (siG cc m) (ss4 tx o u Q t (fun j=>nPV (s j)) i) a b) (nPV (s i))) (nPV (s (v i)))=some (nPV (mgP true (s (v i)) (s i))):=by
   rw [compLoop_app (k:=fun x=>nPV ((s i).map fun q=>x ||| q)) e2]
   unfold mgP nPV
   simp only [cond_true,List.map_flatMap]
  rw [e3]
  have e4:mkV (.list (nPV (mgP true (s (v i)) (s i))))=some (.v (.list (nPV (mgP true (s (v i)) (s i))))):=by
   show (bif smallN (nPV (mgP true (s (v i)) (s i))).length then _ else _)=_
   unfold nPV
   rw [List.length_map,small_of hm]
   rfl
  rw [Option.bind_some,e4]
  rfl
theorem mg_loop (tx:Nat → List Nat) (o u:Nat → Int) (v:Nat → Nat) (Q:List PV) (t:Int) (b:Nat → Bool) (hb:∀ j,((o j + t).fmod 2 == 1)=b j) (hu:∀ i,1 ≤ i → i ≤ 6 → u i=(v i:Int) ∧ v i < i) :
  ∀ (n:Nat) (s:Nat → List Nat) (w:Nat → Nat) (i:Int),n ≤ 6 → (∀ j,1 ≤ w j) → (∀ j,j ≤ n → (s j).length ≤ 2 ^ w j) → sumW w (n + 1) ≤ 7 →
  ∃ i',forLoop (siG cc m).sc (tgtS (stm stB 1)) (exs (siG cc m) mgB) (exs (siG cc m) (elseS (stm stB 1))) (((List.range n).map (· + 1)).reverse.map fun (k:Nat)=>.int k) (ss4 tx o u Q t (fun j=>nPV (s j)) i) =
   some (.next,ss4 tx o u Q t (fun j=>nPV ((((List.range n).map (· + 1)).reverse.foldl (stepU b v) s) j)) i')
 | 0,s,w,i,_,_,_,_=>⟨i,by kernel_rfl⟩
 | n + 1,s,w,i,hn,hw,hs,hsum=>by
  obtain ⟨hu1,hv⟩:=hu (n + 1) (by exact Nat.zero_lt_succ _) hn
  have two:=sumW_two w (n:=n + 1 + 1) (i:=n + 1) (by exact Nat.le_refl _) hv
  have p7:∀ x,x ≤ 7 → 2 ^ x ≤ 128:=fun x hx=>(Nat.pow_le_pow_right (by decide) hx:2 ^ x ≤ 2 ^ 7)
  have l1:=hs (v (n + 1)) (by exact Nat.le_of_lt hv)
  have l2:=hs (n + 1) (by exact Nat.le_refl _)
  have lm:=mgP_len (b (v (n + 1))) (s (v (n + 1))) (s (n + 1)) _ _ (hw _) (hw _) l1 l2
  have q1:=p7 (w (v (n + 1))) (by omega)
  have q2:=p7 (w (n + 1)) (by exact Nat.le_trans (Nat.le_add_left _ _) hsum)
  have q3:=p7 (w (v (n + 1)) + w (n + 1)) (by exact Nat.le_trans two hsum)
  have step:=mg_eq cc m tx o u v Q t s (n + 1) (by exact Nat.zero_lt_succ _) hn hu1 hv ⟨by exact Nat.le_trans l1 q1,by exact Nat.le_trans l2 q2⟩ (b (v (n + 1))) (hb _) (by exact Nat.le_trans (Nat.le_trans lm q3) (by decide))
  obtain ⟨i',ih⟩:=mg_loop tx o u v Q t b hb hu n (stepU b v s (n + 1)) (upd w (v (n + 1)) (w (v (n + 1)) + w (n + 1))) ((n + 1:Nat):Int) (by exact Nat.le_of_lt hn)
   (fun j=>by unfold upd; have:=hw j; have:=hw (n + 1); have:=hw (v (n + 1)); cases j == v (n + 1) <;> simp only [cond_true,cond_false] <;> omega)
   (fun j hj=>by
    unfold stepU upd
    cases e:j == v (n + 1)
    ·exact hs j (by exact Nat.le_succ_of_le hj)
    ·exact lm)
   (by rw [sumW_upd,if_pos (by exact hv)]; simp only [sumW] at hsum ⊢; exact hsum)
  refine ⟨i',?_⟩
  rw [List.range_succ,List.map_append,List.reverse_append]
  simp only [List.map_cons,List.map_nil,List.reverse_cons,List.reverse_nil,List.nil_append,List.singleton_append,List.foldl_cons]
  rw [forLoop,st_b2]
  simp only
  rw [step]
  exact ih
end
structure RowOk (tx:Nat → List Nat) (o:Nat → Int) (lf:Nat → Bool) (kn:Nat → Nat):Prop where
 leaf:∀ i,i < 7 → lf i=true → o i=0 ∧ kn i < 26 ∧ ∃ l,l.length ≤ 10 ∧ tx i=l ++ [97 + kn i]
 node:∀ i,i < 7 → lf i=false → 0 < o i
noncomputable def sInit (b lf:Nat → Bool) (kn:Nat → Nat) (i:Nat):List Nat:=bif lf i then [2 ^ kn i] else bif b i then [0] else []
theorem compLoop_seven {g:PV → Option (List PV)} {f k:Nat → PV} (h:∀ i,i < 7 → g (f i)=some [k i]):compLoop g (seven f)=some (seven k):=by
 simp only [seven,compLoop,h 0 (by decide),h 1 (by decide),h 2 (by decide),h 3 (by decide),h 4 (by decide),h 5 (by decide),h 6 (by decide),List.cons_append,List.nil_append]
section
variable (cc m:Nm → List PV → Option PV)
theorem init_of {tx:Nat → List Nat} {o:Nat → Int} {lf:Nat → Bool} {kn:Nat → Nat} (R:RowOk tx o lf kn) {t:Int} {b:Nat → Bool} (hb:∀ j,((o j + t).fmod 2 == 1)=b j) {g:PV → Option (List PV)}
  (h1:∀ l,g (.tuple [.str l,.int 0])=leafR (atI l (-1))) (h2:∀ l q,g (.tuple [.str l,.int q])=nodeR (some (q == 0)) (some ((q + t).fmod 2 == 1)) ((eachV [binR .LShift (some (.v (.int 1))) (binR .Sub (ordR ((atI l (-1)).map fun c=>.v (.str [c]))) (some (.v (.int 97))))]).bind fun l=>mkV (.list l))) :
  compLoop g (rowV tx o)=some (seven fun i=>.list (nPV (sInit b lf kn i))):=by
 refine compLoop_seven fun i hi=>?_
 unfold sInit
 cases hl:lf i
 ·have h0:=R.node i hi hl
  rw [h2,hb,beq_eq_false_iff_ne.mpr (show o i ≠ 0 by exact Int.ne_of_gt h0)]
  cases b i <;> rfl
 ·obtain ⟨h0,hk,l,hl,htx⟩:=R.leaf i hi hl
  rw [h0,h1,htx,atI_last _ _ (by exact Nat.le_trans hl (by decide)),get_tab leaf_tab hk]
  rfl
theorem turn_run {tx:Nat → List Nat} {o u:Nat → Int} {v:Nat → Nat} {lf:Nat → Bool} {kn:Nat → Nat} (R:RowOk tx o lf kn) (hu:∀ i,1 ≤ i → i ≤ 6 → u i=(v i:Int) ∧ v i < i) {t:Int} {b:Nat → Bool} (hb:∀ j,((o j + t).fmod 2 == 1)=b j) (Q:List PV) (hQ:Q.length ≤ 10)
  {X:Sg} (hX:X=[] ∨ ∃ s i,X=xs3 s [(nm "i",.fz (.int i))]):∃ s' i',exs (siG cc m) stB (ss2 tx o u Q t X)=some (.next,ss4 tx o u (Q ++ [.list (nPV (sidesP b v (sInit b lf kn) 0))]) t s' i'):=by
 have one:∀ i,(sInit b lf kn i).length ≤ 2 ^ (fun _:Nat=>1) i:=fun i=>by
  unfold sInit; cases lf i <;> cases b i <;> simp
 obtain ⟨i',hm⟩:=mg_loop cc m tx o u v Q t b hb hu 6 (sInit b lf kn) (fun zz=>1) 6 (by decide) (fun zz=>by decide) (fun j zz=>one j) (by decide)
 refine ⟨fun j=>nPV (sidesP b v (sInit b lf kn) j),i',?_⟩
 have e6:(((List.range 6).map (· + 1)).reverse.map fun (k:Nat)=>PV.int k)=[.int 6,.int 5,.int 4,.int 3,.int 2,.int 1]:=by kernel_rfl
 rw [e6] at hm
 have last:exs (siG cc m) (dropS stB 2) (ss4 tx o u Q t (fun j=>nPV (sidesP b v (sInit b lf kn) j)) i')=some (.next,ss4 tx o u (Q ++ [.list (nPV (sidesP b v (sInit b lf kn) 0))]) t (fun j=>nPV (sidesP b v (sInit b lf kn) j)) i'):=by
  refine (xs_at (b:=stB) 2 (by kernel_rfl) ((st_2 cc m tx o u Q t (fun j=>nPV (sidesP b v (sInit b lf kn) j)) i').trans (appL_ok (by exact Nat.lt_of_le_of_lt hQ (by decide))))).trans ?_
  kernel_rfl
 show exs (siG cc m) (dropS stB 0) _=_
 rcases hX with rfl | ⟨s,i,rfl⟩
 ·have s0:=st_0 cc m tx o u Q t []
  rw [init_of R hb (fun l=>st_leaf cc m tx o u Q t l) (fun l q=>st_node cc m tx o u Q t l q)] at s0
  rw [xs_at (b:=stB) 0 (by kernel_rfl) (s0.trans (st_0e cc m tx o u Q t _))]
  have s1:=st_1 cc m tx o u Q t (fun j=>nPV (sInit b lf kn j)) []
  have e1:∀ els r,forLoop (siG cc m).sc (tgtS (stm stB 1)) (exs (siG cc m) mgB) els (.int 6 :: r) (ss2 tx o u Q t (xs3 (fun j=>nPV (sInit b lf kn j)) []))=forLoop (siG cc m).sc (tgtS (stm stB 1)) (exs (siG cc m) mgB) els (.int 6 :: r) (ss4 tx o u Q t (fun j=>nPV (sInit b lf kn j)) 6):=fun els r=>by
   rw [forLoop,forLoop,st_b1,st_b2]
  rw [e1,hm] at s1
  rw [xs_at (b:=stB) 1 (by kernel_rfl) s1]
  exact last
 ·have s0:=st_0 cc m tx o u Q t (xs3 s [(nm "i",.fz (.int i))])
  rw [init_of R hb (fun l=>st_leaf' cc m tx o u Q t s i l) (fun l q=>st_node' cc m tx o u Q t s i l q)] at s0
  rw [xs_at (b:=stB) 0 (by kernel_rfl) (s0.trans (st_0e' cc m tx o u Q t _ _ i))]
  have s1:=st_1 cc m tx o u Q t (fun j=>nPV (sInit b lf kn j)) [(nm "i",.fz (.int i))]
  have e1:∀ els r,forLoop (siG cc m).sc (tgtS (stm stB 1)) (exs (siG cc m) mgB) els (.int 6 :: r) (ss4 tx o u Q t (fun j=>nPV (sInit b lf kn j)) i)=forLoop (siG cc m).sc (tgtS (stm stB 1)) (exs (siG cc m) mgB) els (.int 6 :: r) (ss4 tx o u Q t (fun j=>nPV (sInit b lf kn j)) 6):=fun els r=>by
   rw [forLoop,forLoop,st_b2,st_b2]
  rw [show (ss2 tx o u Q t (xs3 (fun j=>nPV (sInit b lf kn j)) [(nm "i",.fz (.int i))]))=ss4 tx o u Q t (fun j=>nPV (sInit b lf kn j)) i from rfl,e1,hm] at s1
  rw [xs_at (b:=stB) 1 (by kernel_rfl) s1]
  exact last
noncomputable def odd0 (o:Nat → Int) (i:Nat):Bool:=(o i).fmod 2 == 1
theorem sides_run {tx:Nat → List Nat} {o u:Nat → Int} {v:Nat → Nat} {lf:Nat → Bool} {kn:Nat → Nat} (R:RowOk tx o lf kn) (hu:∀ i,1 ≤ i → i ≤ 6 → u i=(v i:Int) ∧ v i < i) :
  retOf (exs (siG cc m) siB [(nm "rows",.fz (.list (rowV tx o))),(nm "ups",.fz (.list (upsV u)))]) =
   some (.list [.list (nPV (sidesP (odd0 o) v (sInit (odd0 o) lf kn) 0)),.list (nPV (sidesP (fun i=>!odd0 o i) v (sInit (fun i=>!odd0 o i) lf kn) 0))]):=by
 have b0:∀ j,((o j + 0).fmod 2 == 1)=odd0 o j:=fun j=>by rw [Int.add_zero]; rfl
 have b1:∀ j,((o j + 1).fmod 2 == 1)=!odd0 o j:=fun j=>by
  unfold odd0
  rw [Int.fmod_eq_emod_of_nonneg _ (by decide),Int.fmod_eq_emod_of_nonneg _ (by decide)]
  have h:o j % 2=0 ∨ o j % 2=1:=by omega
  rcases h with h | h
  ·rw [h,show (o j + 1) % 2=1 by omega]; rfl
  ·rw [h,show (o j + 1) % 2=0 by omega]; rfl
 obtain ⟨s1,i1,h1⟩:=turn_run cc m R hu b0 [] (by decide) (X:=[]) (.inl rfl)
 obtain ⟨s2,i2,h2⟩:=turn_run cc m R hu b1 ([] ++ [.list (nPV (sidesP (odd0 o) v (sInit (odd0 o) lf kn) 0))]) (by simp) (X:=xs3 s1 [(nm "i",.fz (.int i1))]) (.inr ⟨s1,i1,rfl⟩)
 rw [si_0]
 have l:ex (siG cc m) (stm siB 1) (ss1 tx o u [])=some (.next,ss4 tx o u ([] ++ [.list (nPV (sidesP (odd0 o) v (sInit (odd0 o) lf kn) 0))] ++ [.list (nPV (sidesP (fun i=>!odd0 o i) v (sInit (fun i=>!odd0 o i) lf kn) 0))]) 1 s2 i2):=by
  rw [si_1,forLoop,si_b1]
  simp only
  rw [h1]
  simp only
  rw [forLoop,si_b2]
  simp only
  rw [h2]
  kernel_rfl
 rw [xs_at (b:=siB) 1 (by kernel_rfl) l,si_2]
 rfl
end
theorem sides_eq (n:Nat) {tx:Nat → List Nat} {o u:Nat → Int} {v:Nat → Nat} {lf:Nat → Bool} {kn:Nat → Nat} (R:RowOk tx o lf kn) (hu:∀ i,1 ≤ i → i ≤ 6 → u i=(v i:Int) ∧ v i < i) :
  (O (n + 1)).call n_sides [.list (rowV tx o),.list (upsV u)]=some (.list [.list (nPV (sidesP (odd0 o) v (sInit (odd0 o) lf kn) 0)),.list (nPV (sidesP (fun i=>!odd0 o i) v (sInit (fun i=>!odd0 o i) lf kn) 0))]):=by
 refine call_def (D:=df n_sides) (by kernel_rfl) (by kernel_rfl) (by kernel_rfl) ?_
 have e:zipArgs (df n_sides).params [.list (rowV tx o),.list (upsV u)]=[(nm "rows",.fz (.list (rowV tx o))),(nm "ups",.fz (.list (upsV u)))]:=by kernel_rfl
 rw [e]
 exact sides_run _ _ R hu
noncomputable def trB:List S:=(df n_truth).body
noncomputable def twB:List S:=bodyS (stm trB 3)
section
variable (cc m:Nm → List PV → Option PV)
noncomputable abbrev trH:Gl:=GD cc m (df n_truth)
noncomputable abbrev tt0 (tx:Nat → List Nat) (o k u:Nat → Int):Sg:=[(nm "rows",.fz (.list (rowV tx o))),(nm "kinds",.fz (.list (upsV k))),(nm "ups",.fz (.list (upsV u)))]
noncomputable abbrev tt1 (tx:Nat → List Nat) (o k u:Nat → Int) (Lt:List PV) (X:Sg):Sg:=tt0 tx o k u ++ (nm "letters",.fz (.list Lt)) :: X
noncomputable def keepC (b:Bool):Option Bool:=bif b then some true else some false
noncomputable def keepR (b:Bool) (d:PV):Option (List PV):=(keepC b).bind fun b=>bif b then some [d] else some []
theorem tr_0 (tx:Nat → List Nat) (o k u:Nat → Int):ex (trH cc m) (stm trB 0) (tt0 tx o k u)=asgR (trH cc m) (nm "letters") (valS (stm trB 0)) (tt0 tx o k u) ((compLoop (lcF (trH cc m) (valS (stm trB 0)) (tt0 tx o k u)) (upsV k)).bind fun l=>mkV (.list l)):=by kernel_rfl
theorem tr_0e (tx:Nat → List Nat) (o k u:Nat → Int) (x:Int):lcF (trH cc m) (valS (stm trB 0)) (tt0 tx o k u) (.int x)=keepR (decide (x ≥ 0)) (.int x):=by kernel_rfl
theorem tr_0a (tx:Nat → List Nat) (o k u:Nat → Int) (l:List PV):asgR (trH cc m) (nm "letters") (valS (stm trB 0)) (tt0 tx o k u) (some (.v (.list l)))=some (.next,tt1 tx o k u l []):=by kernel_rfl
noncomputable def whP (L:Nat):Int:=[1,3,15,255,65535,4294967295,18446744073709551615].getD L 0
theorem tr_1 (tx:Nat → List Nat) (o k u:Nat → Int) (lt:Nat → PV):(List.range 7).map (fun L=>ex (trH cc m) (stm trB 1) (tt1 tx o k u ((List.range L).map lt) []))=mapT (List.range 7) fun L=>some (.next,tt1 tx o k u ((List.range L).map lt) [(nm "whole",.fz (.int (whP L)))]):=by kernel_rfl
noncomputable abbrev tt2 (tx:Nat → List Nat) (o k u:Nat → Int) (Lt:List PV) (W:Int) (X:Sg):Sg:=tt1 tx o k u Lt ((nm "whole",.fz (.int W)) :: X)
theorem tr_2 (tx:Nat → List Nat) (o k u:Nat → Int) (Lt:List PV) (W:Int):ex (trH cc m) (stm trB 2) (tt2 tx o k u Lt W [])=asgR (trH cc m) (nm "worth") (valS (stm trB 2)) (tt2 tx o k u Lt W []) ((compLoop (lcF (trH cc m) (valS (stm trB 2)) (tt2 tx o k u Lt W [])) (rowV tx o)).bind fun l=>mkV (.list l)):=by kernel_rfl
theorem tr_2e (tx:Nat → List Nat) (o k u:Nat → Int) (Lt:List PV) (W:Int) (l:List Nat) (q:Int):lcF (trH cc m) (valS (stm trB 2)) (tt2 tx o k u Lt W []) (.tuple [.str l,.int q])=oneR (binR .Mult (some (.v (.int W))) (some (.v (.int (q.fmod 2))))):=by kernel_rfl
theorem tr_2t:(List.range 7).map (fun L=>(oneR (binR .Mult (some (.v (.int (whP L)))) (some (.v (.int 0)))),oneR (binR .Mult (some (.v (.int (whP L)))) (some (.v (.int 1))))))=(List.range 7).map fun L=>(some [.int ((0:Nat):Int)],some [.int (whP L)]):=by kernel_rfl
noncomputable abbrev tt3 (tx:Nat → List Nat) (o k u:Nat → Int) (Lt:List PV) (W:Int) (w:Nat → Int) (X:Sg):Sg:=tt2 tx o k u Lt W ((nm "worth",.own (upsV w)) :: X)
theorem tr_2a (tx:Nat → List Nat) (o k u:Nat → Int) (Lt:List PV) (W:Int) (w:Nat → Int):asgR (trH cc m) (nm "worth") (valS (stm trB 2)) (tt2 tx o k u Lt W []) (some (.v (.list (upsV w))))=some (.next,tt3 tx o k u Lt W w []):=by kernel_rfl
theorem tr_3 (tx:Nat → List Nat) (o k u:Nat → Int) (Lt:List PV) (W:Int) (w:Nat → Int):ex (trH cc m) (stm trB 3) (tt3 tx o k u Lt W w [])=forLoop (trH cc m).sc (tgtS (stm trB 3)) (exs (trH cc m) twB) (exs (trH cc m) (elseS (stm trB 3))) [.int 6,.int 5,.int 4,.int 3,.int 2,.int 1] (tt3 tx o k u Lt W w []):=by kernel_rfl
noncomputable abbrev tt4 (tx:Nat → List Nat) (o k u:Nat → Int) (Lt:List PV) (W:Int) (w:Nat → Int) (i:Int) (X:Sg):Sg:=tt3 tx o k u Lt W w ((nm "i",.fz (.int i)) :: X)
theorem tr_b1 (tx:Nat → List Nat) (o k u:Nat → Int) (Lt:List PV) (W:Int) (w:Nat → Int) (i:Int):bindT (trH cc m).sc (tgtS (stm trB 3)) (.int i) (tt3 tx o k u Lt W w [])=some (tt4 tx o k u Lt W w i []):=by kernel_rfl
theorem tr_b2 (tx:Nat → List Nat) (o k u:Nat → Int) (Lt:List PV) (W:Int) (w:Nat → Int) (i i':Int) (X:Sg):bindT (trH cc m).sc (tgtS (stm trB 3)) (.int i) (tt4 tx o k u Lt W w i' X)=some (tt4 tx o k u Lt W w i X):=by kernel_rfl
noncomputable def is6:List Nat:=[1,2,3,4,5,6]
noncomputable def lfB:List S:=bodyS (stm twB 0)
theorem tw_0 (tx:Nat → List Nat) (o k u:Nat → Int) (Lt:List PV) (W:Int) (w:Nat → Int) (X:Sg):is6.map (fun (i:Nat)=>ex (trH cc m) (stm twB 0) (tt4 tx o k u Lt W w i X))=is6.map fun (i:Nat)=>ifC (some (decide (k i ≥ 0))) (exs (trH cc m) lfB (tt4 tx o k u Lt W w i X)) (some (.next,tt4 tx o k u Lt W w i X)):=by kernel_rfl
noncomputable def idxE (d:PV) (l:List PV):Option EV:=((bif smallN l.length then (idxP d l).map fun (n:Nat)=>PV.int (Int.ofNat n) else none)).bind mkV
theorem lf_0 (tx:Nat → List Nat) (o k u:Nat → Int) (Lt:List PV) (W:Int) (w:Nat → Int) (X:Sg):is6.map (fun (i:Nat)=>ex (trH cc m) (stm lfB 0) (tt4 tx o k u Lt W w i X))=is6.map fun (i:Nat)=>asgR (trH cc m) (nm "span") (valS (stm lfB 0)) (tt4 tx o k u Lt W w i X) (binR .LShift (some (.v (.int 1))) (idxE (.int (k i)) Lt)):=by kernel_rfl
theorem lf_0t:(List.range 7).map (fun (b:Nat)=>binR .LShift (some (.v (.int 1))) (mkV (.int b)))=(List.range 7).map fun b=>some (.v (.int (2 ^ b:Nat))):=by kernel_rfl
theorem lf_0a (tx:Nat → List Nat) (o k u:Nat → Int) (Lt:List PV) (W:Int) (w:Nat → Int) (i x:Int):asgR (trH cc m) (nm "span") (valS (stm lfB 0)) (tt4 tx o k u Lt W w i []) (some (.v (.int x)))=some (.next,tt4 tx o k u Lt W w i [(nm "span",.fz (.int x))]):=by kernel_rfl
theorem lf_0b (tx:Nat → List Nat) (o k u:Nat → Int) (Lt:List PV) (W:Int) (w:Nat → Int) (i x y:Int):asgR (trH cc m) (nm "span") (valS (stm lfB 0)) (tt4 tx o k u Lt W w i [(nm "span",.fz (.int y))]) (some (.v (.int x)))=some (.next,tt4 tx o k u Lt W w i [(nm "span",.fz (.int x))]):=by kernel_rfl
noncomputable def vaP (L b:Nat):Nat:=(2 ^ 2 ^ L - 1) / (2 ^ 2 ^ b + 1) * 2 ^ 2 ^ b
theorem lf_1 (tx:Nat → List Nat) (o k u:Nat → Int) (Lt:List PV) (w:Nat → Int):is6.map (fun (i:Nat)=>(List.range 7).map fun L=>(List.range 6).map fun b=>ex (trH cc m) (stm lfB 1) (tt4 tx o k u Lt (whP L) w i [(nm "span",.fz (.int (2 ^ b:Nat)))])) =
  is6.map fun (i:Nat)=>(List.range 7).map fun L=>(List.range 6).map fun b=>some (.next,tt4 tx o k u Lt (whP L) (upd w i (vaP L b:Nat)) i [(nm "span",.fz (.int (2 ^ b:Nat)))]):=by kernel_rfl
theorem tw_1 (tx:Nat → List Nat) (o k u:Nat → Int) (Lt:List PV) (W:Int) (w:Nat → Int) (X:Sg):pairs.map (fun x=>exs (trH cc m) (dropS twB 1) (tt4 tx o k (upd u x.1 x.2) Lt W w x.1 X)) =
  pairs.map fun x=>thn (ifC (some ((o x.2).fmod 2 == 1)) (some (.next,tt4 tx o k (upd u x.1 x.2) Lt W (upd w x.2 (Builtin.bitAnd (w x.2) (w x.1))) x.1 X)) (some (.next,tt4 tx o k (upd u x.1 x.2) Lt W (upd w x.2 (Builtin.bitOr (w x.2) (w x.1))) x.1 X))):=by kernel_rfl
theorem tr_4 (tx:Nat → List Nat) (o k u:Nat → Int) (lt:Nat → PV) (W:Int) (w:Nat → Int) (i x:Int):(List.range 7).map (fun L=>retOf (exs (trH cc m) (dropS trB 4) (tt4 tx o k u ((List.range L).map lt) W w i [(nm "span",.fz (.int x))])))=(List.range 7).map fun L=>some (.list ((List.range (2 ^ L)).map fun x=>.int (Builtin.bitAnd ((w 0).fdiv (2 ^ x:Nat)) 1))):=by kernel_rfl
end
noncomputable def ltN (lf:Nat → Bool) (kn:Nat → Nat):List Nat:=(is7.filter lf).map kn
noncomputable def posN (lf:Nat → Bool) (i:Nat):Nat:=(is7.filter lf).idxOf i
noncomputable def stepW (a lf:Nat → Bool) (L:Nat) (v:Nat → Nat) (w:Nat → Nat) (i:Nat):Nat → Nat:=
 let w1:=bif lf i then upd w i (vaP L (posN lf i)) else w
 upd w1 (v i) (bif a (v i) then w1 (v i) &&& w1 i else w1 (v i) ||| w1 i)
noncomputable def wInit (a:Nat → Bool) (L:Nat) (i:Nat):Nat:=bif a i then (whP L).toNat else 0
noncomputable def truthP' (a lf:Nat → Bool) (L:Nat) (v:Nat → Nat):Nat:=down.foldl (stepW a lf L v) (wInit a L) 0
noncomputable def tbP (T x:Nat):Nat:=(T / 2 ^ x) &&& 1
structure KindsOk (k:Nat → Int) (lf:Nat → Bool) (kn:Nat → Nat):Prop where
 leaf:∀ i,i < 7 → lf i=true → k i=(kn i:Int)
 node:∀ i,i < 7 → lf i=false → k i < 0
 inj:∀ i j,i < 7 → j < 7 → lf i=true → lf j=true → kn i=kn j → i=j
 top:lf 0=false
 low:lf 6=true
theorem intsP_nPV:∀ l:List Nat,intsP (nPV l)=some (l.map fun (x:Nat)=>(x:Int))
 | []=>rfl
 | x :: r=>by
  show ((asI (.int x)).bind fun i=>(intsP (nPV r)).map (i :: ·))=_
  rw [intsP_nPV r]; rfl
theorem indexP_nPV (x:Nat):∀ (l:List Nat) (n:Nat),x ∈ l → indexP (.int x) (nPV l) n=some (n + l.idxOf x)
 | y :: r,n,h=>by
  have e:pvEq (.int y) (.int x)=some ((y:Int) == (x:Int)):=rfl
  unfold nPV
  rw [List.map_cons,indexP,e]
  by_cases hy:y=x
  ·subst hy
   simp
  ·rw [beq_eq_false_iff_ne.mpr (show (y:Int) ≠ (x:Int) by exact mt Int.ofNat.inj hy)]
   simp only [Option.bind_some,cond_false]
   have hm:x ∈ r:=by
    rcases List.mem_cons.mp h with h | h
    ·exact absurd h.symm hy
    ·exact h
   have:=indexP_nPV x r (n + 1) hm
   unfold nPV at this
   rw [this,List.idxOf_cons]
   rw [show (y == x)=false from beq_eq_false_iff_ne.mpr hy]
   simp only [cond_false]
   congr 1; exact Nat.add_right_comm _ _ _
theorem idxOf_map {f:Nat → Nat} {x:Nat}:∀ {l:List Nat},(∀ y ∈ l,f y=f x → y=x) → (l.map f).idxOf (f x)=l.idxOf x
 | [],_=>rfl
 | y :: r,h=>by
  rw [List.map_cons,List.idxOf_cons,List.idxOf_cons]
  by_cases hy:y=x
  ·subst hy; simp
  ·rw [show (y == x)=false from beq_eq_false_iff_ne.mpr hy,show (f y == f x)=false from beq_eq_false_iff_ne.mpr fun e=>hy (h y (.head _) e)]
   simp only [cond_false]
   rw [idxOf_map fun z hz=>h z (.tail _ hz)]
section
variable {k:Nat → Int} {lf:Nat → Bool} {kn:Nat → Nat}
theorem mem_is7 {i:Nat} (h:i < 7):i ∈ is7:=by
 exact (by decide:∀ i ∈ List.range 7,i ∈ is7) i (List.mem_range.mpr h)
theorem is7_lt {i:Nat} (h:i ∈ is7):i < 7:=by
 unfold is7 at h
 simp only [List.mem_cons,List.not_mem_nil,or_false] at h
 omega
theorem ltN_len (K:KindsOk k lf kn):(ltN lf kn).length ≤ 6:=by
 unfold ltN
 rw [List.length_map,is7,List.filter_cons,K.top]
 exact List.length_filter_le _ _
theorem idx_eq (K:KindsOk k lf kn) {i:Nat} (hi:i < 7) (hl:lf i=true):idxE (.int (k i)) (nPV (ltN lf kn))=mkV (.int (posN lf i)) ∧ posN lf i < 6:=by
 have hm:i ∈ is7.filter lf:=List.mem_filter.mpr ⟨mem_is7 hi,hl⟩
 have e:=idxOf_map (f:=kn) (x:=i) (l:=is7.filter lf) fun y hy e=>by
  obtain ⟨h1,h2⟩:=List.mem_filter.mp hy
  exact K.inj y i (is7_lt h1) hi h2 hl e
 have hL:=ltN_len K
 have hlen:(nPV (ltN lf kn)).length=(ltN lf kn).length:=by unfold nPV; rw [List.length_map]
 refine ⟨?_,?_⟩
 ·unfold idxE
  rw [hlen,small_of (by exact Nat.le_trans hL (by decide)),K.leaf i hi hl]
  have h2:idxP (.int (kn i)) (nPV (ltN lf kn))=some (posN lf i):=by
   show ((intsP (nPV (ltN lf kn))).bind fun zz=>indexP (.int (kn i)) (nPV (ltN lf kn)) 0)=_
   rw [intsP_nPV,Option.bind_some]
   rw [indexP_nPV (kn i) (ltN lf kn) 0 (by unfold ltN; exact List.mem_map.mpr ⟨i,hm,rfl⟩)]
   unfold posN ltN
   rw [e,Nat.zero_add]
  rw [h2]
  rfl
 ·have:=List.idxOf_lt_length_of_mem hm
  have h3:(is7.filter lf).length ≤ 6:=by unfold ltN at hL; rw [List.length_map] at hL; exact hL
  unfold posN; exact Nat.lt_of_lt_of_le this h3
end
noncomputable def toZ (w:Nat → Nat):Nat → Int:=fun j=>(w j:Int)
theorem toZ_upd (w:Nat → Nat) (c x:Nat):upd (toZ w) c (x:Int)=toZ (upd w c x):=by
 funext j
 show (bif j == c then (x:Int) else (w j:Int))=((bif j == c then x else w j:Nat):Int)
 cases j == c <;> rfl
section
variable (cc m:Nm → List PV → Option PV)
theorem mem_is6 {i:Nat} (h1:1 ≤ i) (h6:i ≤ 6):i ∈ is6:=by
 exact (by decide:∀ i ∈ List.range 7,1 ≤ i → i ∈ is6) i (List.mem_range.mpr (Nat.lt_succ_of_le h6)) h1
theorem tw_leaf (tx:Nat → List Nat) (o k u:Nat → Int) (lf:Nat → Bool) (kn:Nat → Nat) (K:KindsOk k lf kn) (L:Nat) (hL:L < 7) (w:Nat → Nat) (i:Nat) (h1:1 ≤ i) (h6:i ≤ 6) (hl:lf i=true) {X:Sg} (hX:X=[] ∨ ∃ s,X=[(nm "span",.fz (.int s))]) :
  ex (trH cc m) (stm twB 0) (tt4 tx o k u (nPV (ltN lf kn)) (whP L) (toZ w) i X)=some (.next,tt4 tx o k u (nPV (ltN lf kn)) (whP L) (toZ (upd w i (vaP L (posN lf i)))) i [(nm "span",.fz (.int (2 ^ posN lf i:Nat)))]):=by
 have hi:=mem_is6 h1 h6
 obtain ⟨e1,e2⟩:=idx_eq K (i:=i) (by exact Nat.lt_succ_of_le h6) hl
 have a:=get_in (tw_0 cc m tx o k u (nPV (ltN lf kn)) (whP L) (toZ w) X) hi
 have hk:k i ≥ 0:=by rw [K.leaf i (by exact Nat.lt_succ_of_le h6) hl]; exact Int.natCast_nonneg _
 rw [decide_eq_true hk] at a
 refine a.trans ?_
 show exs (trH cc m) (dropS lfB 0) _=_
 have b:=get_in (lf_0 cc m tx o k u (nPV (ltN lf kn)) (whP L) (toZ w) X) hi
 rw [e1,get_tab lf_0t (show posN lf i < 7 by exact Nat.le_succ_of_le e2)] at b
 have b':ex (trH cc m) (stm lfB 0) (tt4 tx o k u (nPV (ltN lf kn)) (whP L) (toZ w) i X)=some (.next,tt4 tx o k u (nPV (ltN lf kn)) (whP L) (toZ w) i [(nm "span",.fz (.int (2 ^ posN lf i:Nat)))]):=by
  rcases hX with rfl | ⟨s,rfl⟩
  ·exact b.trans (lf_0a cc m tx o k u _ _ _ _ _)
  ·exact b.trans (lf_0b cc m tx o k u _ _ _ _ _ _)
 rw [xs_at (b:=lfB) 0 (by kernel_rfl) b']
 have d:=get_in (lf_1 cc m tx o k u (nPV (ltN lf kn)) (toZ w)) hi
 have d:=get_tab (get_tab d hL) e2
 rw [xs_at (b:=lfB) 1 (by kernel_rfl) d,toZ_upd]
 kernel_rfl
theorem tw_run (tx:Nat → List Nat) (o k u:Nat → Int) (v:Nat → Nat) (lf:Nat → Bool) (kn:Nat → Nat) (K:KindsOk k lf kn) (L:Nat) (hL:L < 7) (w:Nat → Nat) (i:Nat) (h1:1 ≤ i) (h6:i ≤ 6) (hu:u i=(v i:Int)) (hv:v i < i) {X:Sg}
  (hX:(X=[] ∧ lf i=true) ∨ ∃ s,X=[(nm "span",.fz (.int s))]):∃ s,exs (trH cc m) twB (tt4 tx o k u (nPV (ltN lf kn)) (whP L) (toZ w) i X)=some (.next,tt4 tx o k u (nPV (ltN lf kn)) (whP L) (toZ (stepW (odd0 o) lf L v w i)) i [(nm "span",.fz (.int s))]):=by
 have first:∃ s,ex (trH cc m) (stm twB 0) (tt4 tx o k u (nPV (ltN lf kn)) (whP L) (toZ w) i X)=some (.next,tt4 tx o k u (nPV (ltN lf kn)) (whP L) (toZ (bif lf i then upd w i (vaP L (posN lf i)) else w)) i [(nm "span",.fz (.int s))]):=by
  cases hl:lf i
  ·rcases hX with ⟨_,h⟩ | ⟨s,rfl⟩
   ·rw [hl] at h; cases h
   ·refine ⟨s,?_⟩
    have a:=get_in (tw_0 cc m tx o k u (nPV (ltN lf kn)) (whP L) (toZ w) [(nm "span",.fz (.int s))]) (mem_is6 h1 h6)
    have hk:=K.node i (by exact Nat.lt_succ_of_le h6) hl
    rw [decide_eq_false (show ¬ k i ≥ 0 by exact Int.not_le.mpr hk)] at a
    exact a
  ·exact ⟨_,tw_leaf cc m tx o k u lf kn K L hL w i h1 h6 hl (hX.elim (fun h=>.inl h.1) .inr)⟩
 obtain ⟨s,first⟩:=first
 refine ⟨s,?_⟩
 refine (xs_at (b:=twB) 0 (by kernel_rfl) first).trans ?_
 generalize hw1:(bif lf i then upd w i (vaP L (posN lf i)) else w)=w1
 have h:=get_in (tw_1 cc m tx o k u (nPV (ltN lf kn)) (whP L) (toZ w1) [(nm "span",.fz (.int s))]) (pair_mem hv (by exact Nat.lt_succ_of_le h6))
 simp only at h
 have hself:upd u i ((v i:Nat):Int)=u:=by rw [← hu]; exact upd_self u i
 rw [hself] at h
 refine h.trans ?_
 unfold stepW
 simp only [hw1]
 show thn (ifC (some (odd0 o (v i))) _ _)=_
 cases odd0 o (v i)
 ·simp only [ifC_t,ifC_f,thn_next,cond_false]
  rw [show Builtin.bitOr (toZ w1 (v i)) (toZ w1 i)=((w1 (v i) ||| w1 i:Nat):Int) from or_nat _ _,toZ_upd]
 ·simp only [ifC_t,ifC_f,thn_next,cond_true]
  rw [show Builtin.bitAnd (toZ w1 (v i)) (toZ w1 i)=((w1 (v i) &&& w1 i:Nat):Int) from and_nat _ _,toZ_upd]
theorem tw_loop (tx:Nat → List Nat) (o k u:Nat → Int) (v:Nat → Nat) (lf:Nat → Bool) (kn:Nat → Nat) (K:KindsOk k lf kn) (L:Nat) (hL:L < 7) (hu:∀ i,1 ≤ i → i ≤ 6 → u i=(v i:Int) ∧ v i < i) :
  ∀ (l:List Nat) (w:Nat → Nat) (i s:Int),(∀ i ∈ l,1 ≤ i ∧ i ≤ 6) → ∃ i' s',forLoop (trH cc m).sc (tgtS (stm trB 3)) (exs (trH cc m) twB) (exs (trH cc m) (elseS (stm trB 3))) (l.map fun (k:Nat)=>.int k) (tt4 tx o k u (nPV (ltN lf kn)) (whP L) (toZ w) i [(nm "span",.fz (.int s))]) =
   some (.next,tt4 tx o k u (nPV (ltN lf kn)) (whP L) (toZ (l.foldl (stepW (odd0 o) lf L v) w)) i' [(nm "span",.fz (.int s'))])
 | [],w,i,s,_=>⟨i,s,by kernel_rfl⟩
 | n :: l,w,i,s,hl=>by
  obtain ⟨h1,h6⟩:=hl n (.head _)
  obtain ⟨hu1,hv⟩:=hu n h1 h6
  obtain ⟨s1,e1⟩:=tw_run cc m tx o k u v lf kn K L hL w n h1 h6 hu1 hv (X:=[(nm "span",.fz (.int s))]) (.inr ⟨s,rfl⟩)
  obtain ⟨i2,s2,e2⟩:=tw_loop tx o k u v lf kn K L hL hu l (stepW (odd0 o) lf L v w n) n s1 fun z hz=>hl z (.tail _ hz)
  refine ⟨i2,s2,?_⟩
  rw [List.map_cons,forLoop,tr_b2]
  simp only
  rw [e1]
  exact e2
theorem letters_eq {k:Nat → Int} {lf:Nat → Bool} {kn:Nat → Nat} (K:KindsOk k lf kn) {g:PV → Option (List PV)} (h:∀ x:Int,g (.int x)=keepR (decide (x ≥ 0)) (.int x)):(compLoop g (upsV k)).bind (fun l=>mkV (.list l))=some (.v (.list (nPV (ltN lf kn)))):=by
 have e:∀ l:List Nat,(∀ i ∈ l,i < 7) → compLoop g (l.map fun i=>PV.int (k i))=some (nPV ((l.filter lf).map kn)):=by
  intro l
  induction l with
  | nil=>intro _; rfl
  | cons i l ih=>
   intro hl
   have h7:=hl i (.head _)
   have:=ih fun z hz=>hl z (.tail _ hz)
   rw [List.map_cons,compLoop,h]
   cases hb:lf i
   ·have:=K.node i h7 hb
    rw [decide_eq_false (show ¬ k i ≥ 0 by exact Int.not_le.mpr this)]
    simp only [keepR,keepC]
    rw [ih fun z hz=>hl z (.tail _ hz),List.filter_cons,hb]
    rfl
   ·have:=K.leaf i h7 hb
    rw [decide_eq_true (show k i ≥ 0 by omega)]
    simp only [keepR,keepC]
    rw [ih fun z hz=>hl z (.tail _ hz),List.filter_cons,hb,this]
    rfl
 have e2:=e is7 fun i hi=>is7_lt hi
 have hL:=ltN_len K
 show (compLoop g (is7.map fun i=>PV.int (k i))).bind _=_
 rw [e2]
 show mkV (.list (nPV (ltN lf kn)))=_
 show (bif smallN (nPV (ltN lf kn)).length then _ else _)=_
 rw [show (nPV (ltN lf kn)).length=(ltN lf kn).length by unfold nPV; rw [List.length_map],small_of (by exact Nat.le_trans hL (by decide))]
 rfl
theorem nPV_range (l:List Nat):nPV l=(List.range l.length).map fun b=>PV.int (l.getD b 0:Nat):=by
 unfold nPV
 apply List.ext_getElem
 ·simp
 ·intro i h1 h2
  simp [List.getD,show i < l.length by simpa using h1]
theorem truth_run {tx:Nat → List Nat} {o k u:Nat → Int} {v:Nat → Nat} {lf:Nat → Bool} {kn:Nat → Nat} (K:KindsOk k lf kn) (hu:∀ i,1 ≤ i → i ≤ 6 → u i=(v i:Int) ∧ v i < i) :
  retOf (exs (trH cc m) trB (tt0 tx o k u))=some (.list ((List.range (2 ^ (ltN lf kn).length)).map fun x=>.int (tbP (truthP' (odd0 o) lf (ltN lf kn).length v) x:Nat))):=by
 have hL:=ltN_len K
 generalize hLL:(ltN lf kn).length=L at hL
 show retOf (exs _ (dropS trB 0) _)=_
 have s0:ex (trH cc m) (stm trB 0) (tt0 tx o k u)=some (.next,tt1 tx o k u (nPV (ltN lf kn)) []):=by
  rw [tr_0,letters_eq K (tr_0e cc m tx o k u),tr_0a]
 rw [xs_at (b:=trB) 0 (by kernel_rfl) s0]
 have hn:nPV (ltN lf kn)=(List.range L).map fun b=>PV.int ((ltN lf kn).getD b 0:Nat):=by rw [nPV_range,hLL]
 have s1:ex (trH cc m) (stm trB 1) (tt1 tx o k u (nPV (ltN lf kn)) [])=some (.next,tt2 tx o k u (nPV (ltN lf kn)) (whP L) []):=by
  rw [hn]
  exact get_T (tr_1 cc m tx o k u fun b=>PV.int ((ltN lf kn).getD b 0:Nat)) (Nat.lt_succ_of_le hL)
 rw [xs_at (b:=trB) 1 (by kernel_rfl) s1]
 have s2:ex (trH cc m) (stm trB 2) (tt2 tx o k u (nPV (ltN lf kn)) (whP L) [])=some (.next,tt3 tx o k u (nPV (ltN lf kn)) (whP L) (toZ (wInit (odd0 o) L)) []):=by
  have e:compLoop (lcF (trH cc m) (valS (stm trB 2)) (tt2 tx o k u (nPV (ltN lf kn)) (whP L) [])) (rowV tx o)=some (upsV (toZ (wInit (odd0 o) L))):=by
   refine compLoop_seven fun i hi=>?_
   rw [tr_2e]
   have t:=get_tab tr_2t (Nat.lt_succ_of_le hL)
   simp only [Prod.mk.injEq] at t
   have hw:((whP L).toNat:Int)=whP L:=(by decide +kernel:∀ L ∈ List.range 7,((whP L).toNat:Int)=whP L) L (List.mem_range.mpr (Nat.lt_succ_of_le hL))
   have h:=Int.emod_two_eq (o i)
   have ef:(o i).fmod 2=o i % 2:=Int.fmod_eq_emod_of_nonneg _ (by decide)
   unfold toZ wInit odd0
   rw [ef]
   rcases h with h | h
   ·rw [h,t.1]; rfl
   ·rw [h,t.2]
    show _=some [PV.int ((whP L).toNat:Int)]
    rw [hw]
  rw [tr_2,e]
  exact tr_2a cc m tx o k u _ _ _
 rw [xs_at (b:=trB) 2 (by kernel_rfl) s2]
 have s3:∃ i s,ex (trH cc m) (stm trB 3) (tt3 tx o k u (nPV (ltN lf kn)) (whP L) (toZ (wInit (odd0 o) L)) [])=some (.next,tt4 tx o k u (nPV (ltN lf kn)) (whP L) (toZ (down.foldl (stepW (odd0 o) lf L v) (wInit (odd0 o) L))) i [(nm "span",.fz (.int s))]):=by
  obtain ⟨hu1,hv⟩:=hu 6 (by decide) (by decide)
  obtain ⟨s1,e1⟩:=tw_run cc m tx o k u v lf kn K L (by exact Nat.lt_succ_of_le hL) (wInit (odd0 o) L) 6 (by decide) (by decide) hu1 hv (X:=[]) (.inl ⟨rfl,K.low⟩)
  obtain ⟨i2,s2,e2⟩:=tw_loop cc m tx o k u v lf kn K L (by exact Nat.lt_succ_of_le hL) hu [5,4,3,2,1] (stepW (odd0 o) lf L v (wInit (odd0 o) L) 6) 6 s1 (by decide)
  refine ⟨i2,s2,?_⟩
  rw [tr_3,forLoop,tr_b1]
  simp only
  rw [show (6:Int)=((6:Nat):Int) from rfl,e1]
  exact e2
 obtain ⟨i,s,s3⟩:=s3
 rw [xs_at (b:=trB) 3 (by kernel_rfl) s3,hn]
 refine (get_tab (tr_4 cc m tx o k u (fun b=>PV.int ((ltN lf kn).getD b 0:Nat)) (whP L) (toZ (down.foldl (stepW (odd0 o) lf L v) (wInit (odd0 o) L))) i s) (Nat.lt_succ_of_le hL)).trans ?_
 refine congrArg (fun l=>some (PV.list l)) (List.map_congr_left fun x zz=>?_)
 show PV.int (Builtin.bitAnd ((truthP' (odd0 o) lf L v:Int).fdiv (2 ^ x:Nat)) ((1:Nat):Int))=_
 rw [fdiv_nat,and_nat]
 rfl
end
theorem truth_eq (n:Nat) {tx:Nat → List Nat} {o k u:Nat → Int} {v:Nat → Nat} {lf:Nat → Bool} {kn:Nat → Nat} (K:KindsOk k lf kn) (hu:∀ i,1 ≤ i → i ≤ 6 → u i=(v i:Int) ∧ v i < i) :
  (O (n + 1)).call n_truth [.list (rowV tx o),.list (upsV k),.list (upsV u)]=some (.list ((List.range (2 ^ (ltN lf kn).length)).map fun x=>.int (tbP (truthP' (odd0 o) lf (ltN lf kn).length v) x:Nat))):=by
 refine call_def (D:=df n_truth) (by kernel_rfl) (by kernel_rfl) (by kernel_rfl) ?_
 have e:zipArgs (df n_truth).params [.list (rowV tx o),.list (upsV k),.list (upsV u)]=tt0 tx o k u:=by kernel_rfl
 rw [e]
 exact truth_run _ _ K hu
noncomputable def joinL:List (List Nat) → List Nat
 | []=>[]
 | [w]=>w
 | w :: x :: r=>w ++ 44 :: 32 :: joinL (x :: r)
noncomputable def posL:Nat → List (List Nat) → List Nat
 | a,w :: x :: r=>(a + w.length) :: posL (a + w.length + 2) (x :: r)
 | _,_=>[]
noncomputable abbrev cbS:PySem.Str:=⟨#[44,32]⟩
noncomputable abbrev mkT (w:List Nat):PySem.Str:=⟨w.toArray⟩
noncomputable def matL (L:List Nat) (i:Nat):Bool:=(L.drop i).take 2 == [44,32]
theorem subAt_mat (L:List Nat) (i:Nat):PySem.Builtin.Str.subAt (mkT L) cbS i=matL L i:=StrLaws.subAt_eq _ _ _
theorem occ_all (L:List Nat) (limit:Nat):∀ (l:List Nat) (st:Array Nat × Nat),(∀ i ∈ l,matL L i=true → st.2 ≤ i) → l.Pairwise (fun i j=>matL L i=true → matL L j=true → i + 2 ≤ j) → st.1.size + l.length ≤ limit →
  (forIn l st (StrLaws.occBody (mkT L) cbS L.length limit)).run.fst.toList=st.1.toList ++ l.filter (matL L)
 | [],st,_,_,_=>by simp
 | a :: l,st,h1,h2,h3=>by
  rw [List.forIn_cons]
  unfold StrLaws.occBody
  rw [subAt_mat]
  simp only [List.length_cons] at h3
  obtain ⟨p1,p2⟩:=List.pairwise_cons.mp h2
  cases hm:matL L a
  ·rw [if_neg (fun h=>by cases h.2)]
   show (forIn l st (StrLaws.occBody (mkT L) cbS L.length limit)).run.fst.toList=_
   rw [occ_all L limit l st (fun i hi=>h1 i (.tail _ hi)) p2 (by exact Nat.le_of_lt h3),List.filter_cons,hm]
   rfl
  ·have hle:a + 2 ≤ L.length:=by
    have e:(L.drop a).take 2=[44,32]:=beq_iff_eq.mp hm
    have:=congrArg List.length e
    simp at this; omega
   rw [if_pos ⟨⟨⟨by exact Nat.lt_of_le_of_lt (Nat.le_add_right _ _) h3,h1 a (.head _) hm⟩,hle⟩,rfl⟩]
   show (forIn l (st.1.push a,a + 2) (StrLaws.occBody (mkT L) cbS L.length limit)).run.fst.toList=_
   rw [occ_all L limit l (st.1.push a,a + 2) (fun i hi hi'=>p1 i hi hm hi') p2 (by simp; omega),List.filter_cons,hm]
   simp
theorem mat_apart {L:List Nat} {i j:Nat} (h:i < j) (hi:matL L i=true) (hj:matL L j=true):i + 2 ≤ j:=by
 refine Nat.le_of_not_lt fun hlt=>?_
 have e:j=i + 1:=by omega
 subst e
 have a:(L.drop i).take 2=[44,32]:=beq_iff_eq.mp hi
 have b:(L.drop (i + 1)).take 2=[44,32]:=beq_iff_eq.mp hj
 rw [← List.drop_drop] at b
 cases q:L.drop i with
 | nil=>rw [q] at a; cases a
 | cons x r=>
  rw [q] at a b
  cases r with
  | nil=>cases b
  | cons y r=>
   simp only [List.take_succ_cons,List.cons.injEq] at a
   rw [a.2.1] at b
   simp only [List.drop_succ_cons,List.drop_zero,List.take_succ_cons,List.cons.injEq] at b
   exact absurd b.1 (by decide)
noncomputable def plain (w:List Nat):Prop:=∀ c ∈ w,c ≠ 44
theorem no_mat {L w r:List Nat} {a:Nat} (h:L.drop a=w ++ r) (hw:plain w):(List.range' a w.length).filter (matL L)=[]:=by
 rw [List.filter_eq_nil_iff]
 intro i hi hm
 rw [List.mem_range'_1] at hi
 obtain ⟨k,rfl⟩:∃ k,i=a + k:=⟨i - a,by exact (Nat.add_sub_cancel' hi.1).symm⟩
 have e:(L.drop (a + k)).take 2=[44,32]:=beq_iff_eq.mp hm
 rw [← List.drop_drop,h,List.drop_append_of_le_length (by omega)] at e
 have hk:k < w.length:=by exact Nat.lt_of_add_lt_add_left hi.2
 rw [List.drop_eq_getElem_cons hk] at e
 simp only [List.cons_append,List.take_succ_cons,List.cons.injEq] at e
 exact hw _ (List.getElem_mem hk) e.1
theorem filter_pos (L:List Nat):∀ (ws:List (List Nat)) (a:Nat),L.drop a=joinL ws → (∀ w ∈ ws,plain w) → ws ≠ [] → (List.range' a ((joinL ws).length + 1)).filter (matL L)=posL a ws
 | [w],a,h,hp,_=>by
  have h:L.drop a=w ++ []:=by rw [h]; simp [joinL]
  show (List.range' a (w.length + 1)).filter (matL L)=[]
  rw [← List.range'_append_1,List.filter_append,no_mat h (hp w (.head _)),List.nil_append,List.filter_eq_nil_iff]
  intro i hi hm
  rw [List.mem_range'_1] at hi
  have ei:i=a + w.length:=by omega
  subst ei
  have e:(L.drop (a + w.length)).take 2=[44,32]:=beq_iff_eq.mp hm
  rw [← List.drop_drop,h,List.append_nil,List.drop_length] at e
  cases e
 | w :: x :: r,a,h,hp,_=>by
  have h0:L.drop a=w ++ 44 :: 32 :: joinL (x :: r):=h
  have ih:=filter_pos L (x :: r) (a + w.length + 2) (by rw [Nat.add_assoc,← List.drop_drop,h0,List.drop_append,List.drop_eq_nil_of_le (by exact Nat.le_add_right _ _)]; simp) (fun z hz=>hp z (.tail _ hz)) (by simp)
  have el:(joinL (w :: x :: r)).length + 1=w.length + (1 + (1 + ((joinL (x :: r)).length + 1))):=by
   show (w ++ 44 :: 32 :: joinL (x :: r)).length + 1=_
   simp; omega
  have m1:matL L (a + w.length)=true:=by
   unfold matL
   rw [← List.drop_drop,h0,List.drop_left]
   rfl
  have m2:matL L (a + w.length + 1)=false:=by
   unfold matL
   rw [Nat.add_assoc,← List.drop_drop,← List.drop_drop,h0,List.drop_left]
   rfl
  rw [el,← List.range'_append_1,List.filter_append,no_mat h0 (hp w (.head _)),List.nil_append,← List.range'_append_1,List.filter_append,← List.range'_append_1,List.filter_append]
  show List.filter (matL L) [a + w.length] ++ (List.filter (matL L) [a + w.length + 1] ++ _)=_
  rw [List.filter_cons,m1,List.filter_cons,m2]
  simp only [if_true,List.filter_nil,Bool.false_eq_true,if_false,List.nil_append]
  show [a + w.length] ++ List.filter (matL L) (List.range' (a + w.length + 1 + 1) _)=_
  rw [show a + w.length + 1 + 1=a + w.length + 2 from rfl,ih]
  rfl
theorem parts_pos (L:List Nat):∀ (ws:List (List Nat)) (a:Nat),L.drop a=joinL ws → ws ≠ [] → StrLaws.partsFrom (mkT L) 2 a (posL a ws)=ws.map mkT
 | [w],a,h,_=>by
  have h:L.drop a=w:=h
  show [PySem.Builtin.Str.strSub (mkT L) a (mkT L).length]=[mkT w]
  congr 1
  apply PySem.Str.ext'
  apply Array.toList_inj.mp
  rw [StrLaws.strSub_toList]
  show (L.drop a).take (L.length - a)=w
  rw [h,← h]
  exact List.take_of_length_le (by simp)
 | w :: x :: r,a,h,_=>by
  have h0:L.drop a=w ++ 44 :: 32 :: joinL (x :: r):=h
  have ih:=parts_pos L (x :: r) (a + w.length + 2) (by rw [Nat.add_assoc,← List.drop_drop,h0,List.drop_append,List.drop_eq_nil_of_le (by exact Nat.le_add_right _ _)]; simp) (by simp)
  show PySem.Builtin.Str.strSub (mkT L) a (a + w.length) :: StrLaws.partsFrom (mkT L) 2 (a + w.length + 2) (posL (a + w.length + 2) (x :: r))=_
  rw [ih,List.map_cons]
  congr 1
  apply PySem.Str.ext'
  apply Array.toList_inj.mp
  rw [StrLaws.strSub_toList]
  show (L.drop a).take (a + w.length - a)=w
  rw [h0,Nat.add_sub_cancel_left]
  exact List.take_left
theorem occ_eq (ws:List (List Nat)) (hp:∀ w ∈ ws,plain w) (hn:ws ≠ []):PySem.Builtin.Str.occurrences (mkT (joinL ws)) cbS 0 (mkT (joinL ws)).length ((mkT (joinL ws)).length + 1)=posL 0 ws:=by
 rw [StrLaws.occ_eq]
 show (forIn (List.range' 0 ((joinL ws).length + 1 - 0)) (#[],0) (StrLaws.occBody (mkT (joinL ws)) cbS (joinL ws).length ((joinL ws).length + 1))).run.fst.toList=_
 rw [occ_all _ _ _ _ (fun i zz zz=>Nat.zero_le i) ?_ (by simp),Nat.sub_zero,filter_pos _ ws 0 rfl hp hn]
 ·simp
 ·have hlt:(List.range' 0 ((joinL ws).length + 1 - 0)).Pairwise (· < ·):=List.pairwise_lt_range'
  exact hlt.imp fun h=>mat_apart h
theorem posL_len:∀ (ws:List (List Nat)) (a:Nat),(posL a ws).length=ws.length - 1
 | [],_=>rfl
 | [_],_=>rfl
 | w :: x :: r,a=>by
  have:=posL_len (x :: r) (a + w.length + 2)
  show (posL (a + w.length + 2) (x :: r)).length + 1=_
  rw [this]; simp
theorem split_eq (ws:List (List Nat)) (hp:∀ w ∈ ws,plain w) (hn:ws ≠ []) (hs:(joinL ws).length ≤ 1000000) (hl:ws.length ≤ 1000):splitAtP (mkT (joinL ws)) cbS=some (ws.map .str):=by
 have h:=occ_eq ws hp hn
 have h2:(PySem.Builtin.Str.partsBetween (mkT (joinL ws)) (posL 0 ws) cbS.length)=ws.map mkT:=by
  rw [StrLaws.partsBetween_eq]
  exact parts_pos _ ws 0 rfl hn
 have e:Txt.split (mkT (joinL ws)) cbS=ws.map mkT:=by
  unfold Txt.split
  rw [h,h2]
  have k1:decide (PySem.Builtin.Str.strKind (mkT (joinL ws)) < PySem.Builtin.Str.strKind cbS)=false:=by
   have:1 ≤ PySem.Builtin.Str.strKind (mkT (joinL ws)):=by unfold PySem.Builtin.Str.strKind; split <;> first | decide | (split <;> decide)
   rw [show PySem.Builtin.Str.strKind cbS=1 by kernel_rfl]
   exact decide_eq_false (Nat.not_lt_of_le this)
  rw [k1]
  match ws,hn with
  | [w],_=>split <;> rfl
  | w :: x :: r,_=>
   have:decide ((mkT (joinL (w :: x :: r))).length < cbS.length)=false:=by
    refine decide_eq_false ?_
    show ¬ (w ++ 44 :: 32 :: joinL (x :: r)).length < 2
    simp; exact Nat.le_add_left _ _
   rw [this]
   rfl
 unfold splitAtP
 rw [h,h2,e,small_of (show (mkT (joinL ws)).length ≤ 16777216 by show (joinL ws).length ≤ _; exact Nat.le_trans hs (by decide)),small_of (by rw [List.length_map]; exact Nat.le_trans hl (by decide))]
 show some ((ws.map mkT).map ofStr)=_
 rw [List.map_map]
 rfl
theorem joinL_len:∀ ws:List (List Nat),(∀ w ∈ ws,w.length ≤ 20) → (joinL ws).length ≤ 22 * ws.length
 | [],_=>Nat.le_refl _
 | [w],h=>by have:=h w (.head _); show w.length ≤ 22; exact Nat.le_trans this (by decide)
 | w :: x :: r,h=>by
  have h1:=h w (.head _)
  have h2:=joinL_len (x :: r) fun z hz=>h z (.tail _ hz)
  show (w ++ 44 :: 32 :: joinL (x :: r)).length ≤ _
  simp only [List.length_append,List.length_cons] at h2 ⊢
  omega
theorem join_txt:∀ ws:List (List Nat),(Txt.join cbS (ws.map mkT)).cps.toList=joinL ws:=by
 have go:∀ (r:List (List Nat)) (x:List Nat),(r.foldl (fun (acc:Array Nat) p=>acc ++ #[44,32] ++ p.toArray) x.toArray).toList=joinL (x :: r):=by
  intro r
  induction r with
  | nil=>intro x; rfl
  | cons y r ih=>
   intro x
   rw [List.foldl_cons]
   have e:(x.toArray ++ #[44,32] ++ y.toArray)=(x ++ 44 :: 32 :: y).toArray:=by simp
   rw [e,ih]
   cases r with
   | nil=>rfl
   | cons z r=>simp [joinL]
 intro ws
 cases ws with
 | nil=>rfl
 | cons w r=>
  have:=go r w
  show (((r.map mkT).foldl (fun acc (p:PySem.Str)=>acc ++ cbS.cps ++ p.cps) (mkT w).cps)).toList=_
  rw [List.foldl_map]
  exact this
theorem strsP_map:∀ ws:List (List Nat),strsP (ws.map .str)=some (ws.map mkT)
 | []=>rfl
 | w :: r=>by rw [List.map_cons,strsP,strsP_map r]; rfl
theorem joinP_eq (ws:List (List Nat)) (h:∀ w ∈ ws,w.length ≤ 20) (hl:ws.length ≤ 1000):joinP [44,32] (ws.map .str)=some (joinL ws):=by
 unfold joinP
 rw [strsP_map]
 have hs:((ws.map mkT).map (·.length)).sum ≤ 20 * ws.length:=by
  have:=StrLaws.sumLen_le (B:=20) (ws.map mkT) fun y hy=>by
   obtain ⟨w,hw,rfl⟩:=List.mem_map.mp hy
   exact h w hw
  rw [List.length_map] at this; omega
 rw [Option.bind_some,decide_eq_true (by rw [List.length_map]; show _ + ws.length * 2 ≤ _; omega)]
 show some (Txt.join cbS (ws.map mkT)).cps.toList=_
 rw [join_txt]
noncomputable def nm10:List (List Nat):=["OPTIMIZED", "NEWLOCALS", "VARARGS", "VARKEYWORDS", "NESTED", "GENERATOR", "NOFREE", "COROUTINE", "ITERABLE_COROUTINE", "ASYNC_GENERATOR"].map fun s=>nm (PySem.Str.ofString s)
noncomputable def nameS (k:Nat):List Nat:=bif decide (k < 10) then nm10.getD k [] else [48,120] ++ [[49,50,52,56].getD (k % 4) 0] ++ List.replicate (k / 4) 48
theorem name_tab:(List.range 26).all (fun k=>decide ((nameS k).length ≤ 20) && (nameS k).all (fun c=>c != 44) && (List.range 26).all fun j=>(nmEq (nameS k) (nameS j)) == (k == j))=true:=by decide +kernel
noncomputable def insN (x:Nat):List Nat → List Nat
 | []=>[x]
 | y :: r=>bif decide (x ≤ y) then x :: y :: r else y :: insN x r
noncomputable def sortN:List Nat → List Nat
 | []=>[]
 | x :: r=>insN x (sortN r)
theorem insZ_nat (x:Nat):∀ l:List Nat,insZ (x:Int) (l.map fun (k:Nat)=>(k:Int))=(insN x l).map fun (k:Nat)=>(k:Int)
 | []=>rfl
 | y :: r=>by
  have ih:=insZ_nat x r
  rw [List.map_cons,insZ,insN]
  by_cases h:x ≤ y
  ·rw [decide_eq_true h,decide_eq_true (show (x:Int) ≤ y by exact Int.ofNat_le.mpr h)]; rfl
  ·rw [decide_eq_false h,decide_eq_false (show ¬ (x:Int) ≤ y by exact mt Int.ofNat_le.mp h)]
   simp only [cond_false,ih,List.map_cons]
theorem sortZ_nat:∀ l:List Nat,sortZ (l.map fun (k:Nat)=>(k:Int))=(sortN l).map fun (k:Nat)=>(k:Int)
 | []=>rfl
 | x :: r=>by rw [List.map_cons,sortZ,sortZ_nat r,insZ_nat]; rfl
theorem sortP_nat (l:List Nat):sortP (nPV l)=some (nPV (sortN l)):=by
 show Option.casesOn (motive:=fun zz=>Option (List PV)) (intsP (nPV l)) _ (fun ns=>some ((sortZ ns).map PV.int))=_
 rw [intsP_nPV]
 simp only
 rw [sortZ_nat,List.map_map]
 rfl
theorem insN_len (x:Nat):∀ l:List Nat,(insN x l).length=l.length + 1
 | []=>rfl
 | y :: r=>by
  rw [insN]
  cases decide (x ≤ y)
  ·show (insN x r).length + 1=_; rw [insN_len x r]; rfl
  ·rfl
theorem sortN_len:∀ l:List Nat,(sortN l).length=l.length
 | []=>rfl
 | x :: r=>by rw [sortN,insN_len,sortN_len r]; rfl
theorem insN_mem {x z:Nat}:∀ {l:List Nat},z ∈ insN x l → z=x ∨ z ∈ l
 | [],h=>by simp [insN] at h; exact .inl h
 | y :: r,h=>by
  rw [insN] at h
  cases hd:decide (x ≤ y)
  ·rw [hd] at h
   rcases List.mem_cons.mp h with h | h
   ·exact .inr (h ▸ .head _)
   ·rcases insN_mem h with h | h
    ·exact .inl h
    ·exact .inr (.tail _ h)
  ·rw [hd] at h
   rcases List.mem_cons.mp h with h | h
   ·exact .inl h
   ·exact .inr h
theorem sortN_mem {z:Nat}:∀ {l:List Nat},z ∈ sortN l → z ∈ l
 | x :: r,h=>by
  rcases insN_mem h with h | h
  ·exact h ▸ .head _
  ·exact .tail _ (sortN_mem h)
noncomputable def woB:List S:=(df n_words).body
noncomputable def joinR (o:Option EV):Option EV:=(eachPV [o]).bind fun l=>(methodP n_join (.str [44,32]) l).bind mkV
section
variable (cc m:Nm → List PV → Option PV)
noncomputable abbrev woG:Gl:=GD cc m (df n_words)
noncomputable abbrev sw1 (P:List PV):Sg:=[(nm "places",.fz (.list P)),(nm "names",.fz (.list (nm10.map .str)))]
theorem wo_0 (P:List PV):ex (woG cc m) (stm woB 0) [(nm "places",.fz (.list P))]=some (.next,sw1 P):=by kernel_rfl
theorem wo_1 (P:List PV):ex (woG cc m) (stm woB 1) (sw1 P)=retR (joinR (lcR (itR ((bif decide (P.length < 64) then (sortP P).map PV.list else none).bind mkV)) (compLoop (lcF (woG cc m) (kid 0 (valS (stm woB 1))) (sw1 P))))) (sw1 P):=by kernel_rfl
theorem wo_e (P:List PV):(List.range 26).map (fun (k:Nat)=>lcF (woG cc m) (kid 0 (valS (stm woB 1))) (sw1 P) (.int k))=mapT (List.range 26) fun k=>some [.str (nameS k)]:=by kernel_rfl
theorem szb_list (l:List PV) (h:l.length ≤ 16777216):mkV (.list l)=some (.v (.list l)):=by
 show (bif smallN l.length then _ else _)=_
 rw [small_of h]; rfl
theorem joinR_eq (ks:List Nat) (h:∀ k ∈ ks,k < 26) (hl:ks.length ≤ 100):joinR (some (.v (.list (ks.map fun k=>PV.str (nameS k)))))=some (.v (.str (joinL (ks.map nameS)))):=by
 have hw:∀ w ∈ ks.map nameS,w.length ≤ 20:=fun w hw=>by
  obtain ⟨k,hk,rfl⟩:=List.mem_map.mp hw
  have:=List.all_eq_true.mp name_tab k (List.mem_range.mpr (h k hk))
  simp only [Bool.and_eq_true,decide_eq_true_eq] at this
  exact this.1.1
 show ((joinP [44,32] (ks.map fun k=>PV.str (nameS k))).map PV.str).bind mkV=_
 rw [show (ks.map fun k=>PV.str (nameS k))=(ks.map nameS).map .str by rw [List.map_map]; rfl,joinP_eq _ hw (by rw [List.length_map]; exact Nat.le_trans hl (by decide))]
 show (bif smallN (joinL (ks.map nameS)).length then _ else _)=_
 have:=joinL_len _ hw
 rw [List.length_map] at this
 rw [small_of (by omega)]; rfl
theorem words_run (ks:List Nat) (h:∀ k ∈ ks,k < 26) (hl:ks.length ≤ 20):retOf (exs (woG cc m) woB [(nm "places",.fz (.list (nPV ks)))])=some (.str (joinL ((sortN ks).map nameS))):=by
 show retOf (exs _ (dropS woB 0) _)=_
 rw [xs_at (b:=woB) 0 (by kernel_rfl) (wo_0 cc m (nPV ks))]
 have hl2:(nPV ks).length=ks.length:=by unfold nPV; rw [List.length_map]
 have e:ex (woG cc m) (stm woB 1) (sw1 (nPV ks))=some (.ret (.str (joinL ((sortN ks).map nameS))),sw1 (nPV ks)):=by
  rw [wo_1,decide_eq_true (by omega),sortP_nat]
  simp only [cond_true,Option.map_some,Option.bind_some]
  have hs:(nPV (sortN ks)).length=ks.length:=by unfold nPV; rw [List.length_map,sortN_len]
  rw [szb_list _ (by omega)]
  have hc:compLoop (lcF (woG cc m) (kid 0 (valS (stm woB 1))) (sw1 (nPV ks))) (nPV (sortN ks))=some ((sortN ks).map fun k=>PV.str (nameS k)):=by
   have hm:∀ k ∈ sortN ks,k < 26:=fun k hk=>h k (sortN_mem hk)
   revert hm
   generalize sortN ks=l
   intro hm
   induction l with
   | nil=>rfl
   | cons k l ih=>
    unfold nPV at ih ⊢
    rw [List.map_cons,compLoop,get_T (wo_e cc m _) (hm k (.head _))]
    simp only
    rw [ih fun z hz=>hm z (.tail _ hz)]
    rfl
  rw [itR_v,lcR_v,hc,Option.bind_some,szb_list _ (by rw [List.length_map,sortN_len]; exact Nat.le_trans hl (by decide)),joinR_eq _ (fun k hk=>h k (sortN_mem hk)) (by rw [sortN_len]; exact Nat.le_trans hl (by decide))]
  rfl
 rw [xs_ret (b:=woB) 1 (by kernel_rfl) e]
 rfl
end
theorem words_eq (n:Nat) (ks:List Nat) (h:∀ k ∈ ks,k < 26) (hl:ks.length ≤ 20):(O (n + 1)).call n_words [.list (nPV ks)]=some (.str (joinL ((sortN ks).map nameS))):=
 call_def (D:=df n_words) (by kernel_rfl) (by kernel_rfl) (by kernel_rfl) (words_run _ _ ks h hl)
noncomputable def pfB:List S:=(df n_pf).body
noncomputable def pbB':List S:=bodyS (stm pfB 1)
noncomputable def pcB:List S:=bodyS (stm pbB' 1)
noncomputable def z26:List Int:=(List.range 26).map fun (k:Nat)=>(k:Int)
section
variable (cc m:Nm → List PV → Option PV)
noncomputable abbrev pfG:Gl:=GD cc m (df n_pf)
noncomputable abbrev sp0 (F:Int) (R:List PV) (X:Sg):Sg:=(nm "flags",.fz (.int F)) :: (nm "names",.own R) :: X
noncomputable abbrev spf1 (F:Int) (R:List PV) (i f:Int):Sg:=sp0 F R [(nm "i",.fz (.int i)),(nm "flag",.fz (.int f))]
theorem pf_0 (F:Int):ex (pfG cc m) (stm pfB 0) [(nm "flags",.fz (.int F))]=some (.next,sp0 F [] []):=by kernel_rfl
theorem pf_1 (F:Int) (R:List PV):ex (pfG cc m) (stm pfB 1) (sp0 F R [])=forLoop (pfG cc m).sc (tgtS (stm pfB 1)) (exs (pfG cc m) pbB') (exs (pfG cc m) (elseS (stm pfB 1))) ((List.range 32).map fun (k:Nat)=>.int k) (sp0 F R []):=by kernel_rfl
theorem pf_b1 (F:Int) (R:List PV) (i:Int):bindT (pfG cc m).sc (tgtS (stm pfB 1)) (.int i) (sp0 F R [])=some (sp0 F R [(nm "i",.fz (.int i))]):=by kernel_rfl
theorem pf_b2 (F:Int) (R:List PV) (i i' f:Int):bindT (pfG cc m).sc (tgtS (stm pfB 1)) (.int i) (spf1 F R i' f)=some (spf1 F R i f):=by kernel_rfl
theorem pb_0 (F:Int) (R:List PV):(List.range 26).map (fun (i:Nat)=>ex (pfG cc m) (stm pbB' 0) (sp0 F R [(nm "i",.fz (.int i))]))=mapT (List.range 26) fun (i:Nat)=>some (.next,spf1 F R i (2 ^ i:Nat)):=by kernel_rfl
theorem pb_0' (F:Int) (R:List PV) (f:Int):(List.range 26).map (fun (i:Nat)=>ex (pfG cc m) (stm pbB' 0) (spf1 F R i f))=mapT (List.range 26) fun (i:Nat)=>some (.next,spf1 F R i (2 ^ i:Nat)):=by kernel_rfl
theorem pb_1 (F:Int) (R:List PV) (i f:Int):exs (pfG cc m) (dropS pbB' 1) (spf1 F R i f)=thn (ifC (some (Builtin.bitAnd F f != 0)) (exs (pfG cc m) pcB (spf1 F R i f)) (some (.next,spf1 F R i f))):=by kernel_rfl
theorem pc_0 (F:Int) (R:List PV):(List.range 26).map (fun (i:Nat)=>ex (pfG cc m) (stm pcB 0) (spf1 F R i (2 ^ i:Nat)))=mapT (List.range 26) fun (i:Nat)=>appL R (some (.v (.str (nameS i)))) fun R=>spf1 F R i (2 ^ i:Nat):=by kernel_rfl
theorem pc_1 (F:Int) (R:List PV) (i f:Int):ex (pfG cc m) (stm pcB 1) (spf1 F R i f)=some (.next,spf1 (Builtin.bitXor F f) R i f):=by kernel_rfl
theorem pc_2 (F:Int) (R:List PV) (i f:Int):exs (pfG cc m) (dropS pcB 2) (spf1 F R i f)=thn (ifC ((some (F != 0)).map (!·)) (some (.brk,spf1 F R i f)) (some (.next,spf1 F R i f))):=by kernel_rfl
theorem pf_2 (F:Int) (R:List PV) (i f:Int):ex (pfG cc m) (stm pfB 2) (spf1 F R i f)=retR (joinR (some (.v (.list R)))) (spf1 F R i f):=by kernel_rfl
end
theorem and_pow (F i:Nat):F &&& 2 ^ i=(F.testBit i).toNat * 2 ^ i:=by
 apply Nat.eq_of_testBit_eq
 intro j
 rw [Nat.testBit_and,Nat.testBit_two_pow]
 by_cases e:i=j
 ·subst e
  cases h:F.testBit i <;> simp
 ·cases F.testBit i <;> simp [e]
theorem bit_and (F i:Nat):Builtin.bitAnd (F:Int) ((2 ^ i:Nat):Int)=((F.testBit i).toNat * 2 ^ i:Nat):=by
 rw [and_nat,and_pow]
theorem or_set {F i:Nat} (h:F.testBit i=true):F ||| 2 ^ i=F:=by
 apply Nat.eq_of_testBit_eq
 intro j
 rw [Nat.testBit_or,Nat.testBit_two_pow]
 by_cases e:i=j
 ·subst e; simp [h]
 ·simp [e]
theorem bit_xor {F i:Nat} (h:F.testBit i=true):Builtin.bitXor (F:Int) ((2 ^ i:Nat):Int)=((F - 2 ^ i:Nat):Int):=by
 have hle:2 ^ i ≤ F:=by
  have:=Nat.ge_two_pow_of_testBit h
  exact this
 rw [xor_nat,or_set h,and_pow,h]
 simp only [Bool.toNat_true,Nat.one_mul]
 omega
noncomputable def bitsG (F i:Nat):List Nat:=(List.range' i (26 - i)).filter F.testBit
noncomputable def bitsF (F:Nat):List Nat:=(List.range 26).filter F.testBit
theorem split_mask {F i:Nat} (h0:F % 2 ^ i=0):F=2 ^ i * (F / 2 ^ i):=by
 have:=Nat.div_add_mod F (2 ^ i)
 omega
theorem low_next {F i:Nat} (h0:F % 2 ^ i=0) (hb:F.testBit i=false):F % 2 ^ (i + 1)=0:=by
 rw [Nat.testBit_eq_decide_div_mod_eq,decide_eq_false_iff_not] at hb
 rw [Nat.pow_succ,Nat.mod_mul,h0]
 rw [(Nat.mod_two_eq_zero_or_one _).resolve_right hb]; rfl
theorem low_clear {F i:Nat} (h0:F % 2 ^ i=0) (hb:F.testBit i=true):(F - 2 ^ i) % 2 ^ (i + 1)=0 ∧ ∀ j,i < j → (F - 2 ^ i).testBit j=F.testBit j:=by
 rw [Nat.testBit_eq_decide_div_mod_eq,decide_eq_true_eq] at hb
 have e:=split_mask h0
 obtain ⟨q,hq⟩:∃ q,F / 2 ^ i=2 * q + 1:=⟨F / 2 ^ i / 2,by rw [← hb]; exact (Nat.div_add_mod _ _).symm⟩
 rw [hq] at e
 have e2:F - 2 ^ i=2 ^ (i + 1) * q:=by
  rw [e,Nat.pow_succ,Nat.mul_add,Nat.mul_one,Nat.add_sub_cancel,Nat.mul_assoc]
 refine ⟨by rw [e2]; exact Nat.mul_mod_right _ _,fun j hj=>?_⟩
 rw [e2,Nat.testBit_eq_decide_div_mod_eq,Nat.testBit_eq_decide_div_mod_eq]
 have ej:(2:Nat) ^ j=2 ^ (i + 1) * 2 ^ (j - (i + 1)):=by rw [← Nat.pow_add,Nat.add_sub_cancel' hj]
 have d1:2 ^ (i + 1) * q / 2 ^ j=q / 2 ^ (j - (i + 1)):=by
  rw [ej,Nat.mul_div_mul_left _ _ (Nat.two_pow_pos _)]
 have d2:F / 2 ^ j=q / 2 ^ (j - (i + 1)):=by
  rw [ej,← Nat.div_div_eq_div_mul]
  congr 1
  rw [Nat.pow_succ,← Nat.div_div_eq_div_mul,hq,Nat.mul_add_div (by decide)]; rfl
 rw [d1,d2]
theorem range_at {i n:Nat} (h:i < n + 1):List.range' i (n + 1 - i)=i :: List.range' (i + 1) (n + 1 - (i + 1)):=by
 rw [Nat.succ_sub (Nat.le_of_lt_succ h),Nat.add_sub_add_right]
 rfl
theorem bits_cons {F i:Nat} (hi:i < 26) (hb:F.testBit i=true):bitsG F i=i :: bitsG F (i + 1):=by
 unfold bitsG
 rw [range_at (n:=25) hi,List.filter_cons,hb]
 rfl
theorem bits_skip {F i:Nat} (hi:i < 26) (hb:F.testBit i=false):bitsG F i=bitsG F (i + 1):=by
 unfold bitsG
 rw [range_at (n:=25) hi,List.filter_cons,hb]
 rfl
section
variable (cc m:Nm → List PV → Option PV)
theorem pb_all (F:Nat) (R:List PV) (i:Nat) (hi:i < 26) (hR:R.length ≤ 100) {σ:Sg} (h0:ex (pfG cc m) (stm pbB' 0) σ=some (.next,spf1 F R i (2 ^ i:Nat))):exs (pfG cc m) pbB' σ =
  bif F.testBit i then (bif decide (F - 2 ^ i=0) then some (.brk,spf1 (F - 2 ^ i:Nat) (R ++ [.str (nameS i)]) i (2 ^ i:Nat)) else some (.next,spf1 (F - 2 ^ i:Nat) (R ++ [.str (nameS i)]) i (2 ^ i:Nat)))
  else some (.next,spf1 F R i (2 ^ i:Nat)):=by
 have pos:=Nat.two_pow_pos i
 refine (xs_at (b:=pbB') 0 (by kernel_rfl) h0).trans ?_
 rw [pb_1,bit_and]
 cases hb:F.testBit i
 ·have e:(((false.toNat * 2 ^ i:Nat):Int) != 0)=false:=by simp
  rw [e]; rfl
 ·have e:(((true.toNat * 2 ^ i:Nat):Int) != 0)=true:=by
   rw [Bool.toNat_true,Nat.one_mul]
   exact bne_iff_ne.mpr (by omega)
  rw [e]
  simp only [ifC_t,ifC_f,cond_true]
  have c:exs (pfG cc m) pcB (spf1 F R i (2 ^ i:Nat))=thn (ifC ((some (((F - 2 ^ i:Nat):Int) != 0)).map (!·)) (some (.brk,spf1 (F - 2 ^ i:Nat) (R ++ [.str (nameS i)]) i (2 ^ i:Nat))) (some (.next,spf1 (F - 2 ^ i:Nat) (R ++ [.str (nameS i)]) i (2 ^ i:Nat)))):=by
   refine (xs_at (b:=pcB) 0 (by kernel_rfl) ((get_T (pc_0 cc m F R) hi).trans (appL_ok (by exact Nat.lt_of_le_of_lt hR (by decide))))).trans ?_
   rw [xs_at (b:=pcB) 1 (by kernel_rfl) (pc_1 cc m F _ i _),bit_xor hb,pc_2]
  rw [c]
  by_cases hz:F - 2 ^ i=0
  ·rw [hz]; rfl
  ·rw [decide_eq_false hz,show (((F - 2 ^ i:Nat):Int) != 0)=true from bne_iff_ne.mpr (by exact mt Int.ofNat.inj hz)]
   rfl
theorem pf_loop:∀ (n i:Nat) (F:Nat) (R:List PV) (f:Int) (i':Int),i + n=26 → F < 2 ^ 26 → F ≠ 0 → F % 2 ^ i=0 → R.length + n ≤ 100 →
  ∃ F' i2 f2,forLoop (pfG cc m).sc (tgtS (stm pfB 1)) (exs (pfG cc m) pbB') (exs (pfG cc m) (elseS (stm pfB 1))) ((List.range' i (32 - i)).map fun (k:Nat)=>.int k) (spf1 F R i' f)=some (.next,spf1 F' (R ++ (bitsG F i).map fun k=>.str (nameS k)) i2 f2)
 | 0,i,F,R,f,i',hi,h1,h2,h3,_=>by
  exfalso
  have:i=26:=by exact hi
  subst this
  rw [Nat.mod_eq_of_lt h1] at h3
  exact h2 h3
 | n + 1,i,F,R,f,i',hi,h1,h2,h3,hR=>by
  have hlt:i < 26:=by omega
  have step:=pb_all cc m F R i hlt (by exact Nat.le_trans (Nat.le_add_right _ _) hR) (get_T (pb_0' cc m F R f) hlt)
  have el:=range_at (n:=31) (Nat.lt_of_lt_of_le hlt (by decide))
  rw [el,List.map_cons,forLoop,pf_b2]
  simp only
  rw [step]
  cases hb:F.testBit i
  ·simp only [cond_false]
   rw [bits_skip hlt hb]
   exact pf_loop n (i + 1) F R _ _ (by omega) h1 h2 (low_next h3 hb) (by exact Nat.le_of_lt hR)
  ·simp only [cond_true]
   obtain ⟨l1,l2⟩:=low_clear h3 hb
   have eb:bitsG (F - 2 ^ i) (i + 1)=bitsG F (i + 1):=by
    unfold bitsG
    apply List.filter_congr
    intro j hj
    exact l2 j (Nat.lt_of_succ_le (List.mem_range'_1.mp hj).1)
   rw [bits_cons hlt hb,← eb]
   by_cases hz:F - 2 ^ i=0
   ·rw [decide_eq_true hz,hz]
    refine ⟨((0:Nat):Int),i,(2 ^ i:Nat),?_⟩
    have e0:bitsG 0 (i + 1)=[]:=by
     unfold bitsG
     rw [List.filter_eq_nil_iff]
     intro j _; simp
    rw [e0]
    simp only [cond_true,List.map_cons,List.map_nil]
   ·rw [decide_eq_false hz]
    simp only [cond_false]
    obtain ⟨F',i2,f2,ih⟩:=pf_loop n (i + 1) (F - 2 ^ i) (R ++ [.str (nameS i)]) (2 ^ i:Nat) i (by omega) (by exact Nat.lt_of_le_of_lt (Nat.sub_le _ _) h1) hz l1 (by rw [List.length_append,List.length_singleton]; omega)
    refine ⟨F',i2,f2,ih.trans ?_⟩
    simp
theorem bits_lt {F k:Nat} (h:k ∈ bitsF F):k < 26:=List.mem_range.mp (List.mem_filter.mp h).1
theorem pf_run (F:Nat) (h1:F < 2 ^ 26) (h2:F ≠ 0):retOf (exs (pfG cc m) pfB [(nm "flags",.fz (.int F))])=some (.str (joinL ((bitsF F).map nameS))):=by
 show retOf (exs _ (dropS pfB 0) _)=_
 rw [xs_at (b:=pfB) 0 (by kernel_rfl) (pf_0 cc m F)]
 have hb:bitsG F 0=bitsF F:=by unfold bitsG bitsF; rw [List.range_eq_range']
 have l:∃ F' i f,ex (pfG cc m) (stm pfB 1) (sp0 F [] [])=some (.next,spf1 F' ((bitsF F).map fun k=>.str (nameS k)) i f):=by
  obtain ⟨F',i,f,h⟩:=pf_loop cc m 26 0 F [] 0 0 rfl h1 h2 (Nat.mod_one _) (by decide)
  rw [hb,List.nil_append] at h
  refine ⟨F',i,f,?_⟩
  rw [pf_1]
  refine Eq.trans ?_ h
  have e:(List.range' 0 (32 - 0)).map (fun (k:Nat)=>PV.int k)=.int 0 :: ((List.range' 1 31).map fun (k:Nat)=>PV.int k):=rfl
  rw [List.range_eq_range',show List.range' 0 32=List.range' 0 (32 - 0) from rfl,e,forLoop,forLoop,pf_b1,pf_b2]
  simp only
  rw [show (0:Int)=((0:Nat):Int) from rfl,pb_all cc m F [] 0 (by decide) (by decide) (get_T (pb_0 cc m F []) (by decide)),pb_all cc m F [] 0 (by decide) (by decide) (get_T (pb_0' cc m F [] _) (by decide))]
 obtain ⟨F',i,f,l⟩:=l
 rw [xs_at (b:=pfB) 1 (by kernel_rfl) l]
 have e:=pf_2 cc m F' ((bitsF F).map fun k=>.str (nameS k)) i f
 rw [joinR_eq (bitsF F) (fun k hk=>bits_lt hk) (Nat.le_trans (List.length_filter_le _ _) (by decide))] at e
 rw [xs_ret (b:=pfB) (d:=.str (joinL ((bitsF F).map nameS))) 2 (by kernel_rfl) e]
 rfl
end
theorem pf_eq (n:Nat) (F:Nat) (h1:F < 2 ^ 26) (h2:F ≠ 0):(O (n + 1)).call n_pf [.int F]=some (.str (joinL ((bitsF F).map nameS))):=
 call_def (D:=df n_pf) (by kernel_rfl) (by kernel_rfl) (by kernel_rfl) (pf_run _ _ F h1 h2)
noncomputable def leB':List S:=(df n_least).body
noncomputable def lm:List (Nat × Nat):=(List.range 7).flatMap fun L=>(List.range (2 ^ L)).map fun x=>(L,x)
theorem lm_mem {L x:Nat} (h:L < 7) (hx:x < 2 ^ L):(L,x) ∈ lm:=List.mem_flatMap.mpr ⟨L,List.mem_range.mpr h,List.mem_map.mpr ⟨x,List.mem_range.mpr hx,rfl⟩⟩
noncomputable def lmb:List ((Nat × Nat) × Nat):=lm.flatMap fun p=>(List.range 6).map fun b=>(p,b)
theorem lmb_mem {p:Nat × Nat} {b:Nat} (h:p ∈ lm) (hb:b < 6):(p,b) ∈ lmb:=List.mem_flatMap.mpr ⟨p,h,List.mem_map.mpr ⟨b,List.mem_range.mpr hb,rfl⟩⟩
noncomputable def bits6 (x:Nat):List Nat:=(List.range 6).filter x.testBit
noncomputable def tbV (L:Nat) (tb:Nat → Int):PV:=.list ((List.range (2 ^ L)).map fun x=>.int (tb x))
noncomputable def letV (L:Nat) (lt:Nat → Int):List PV:=(List.range L).map fun b=>.int (lt b)
noncomputable def ifEP (e:E):E:=match e with
 | .comp _ (.mk _ _ (c :: _)) _ _ _=>c
 | e=>e
section
variable (cc m:Nm → List PV → Option PV)
noncomputable abbrev leG':Gl:=GD cc m (df n_least)
noncomputable abbrev sq0 (T:PV) (k:Nat → Int):Sg:=[(nm "truth",.fz T),(nm "kinds",.fz (.list (upsV k)))]
noncomputable abbrev sq1 (T:PV) (k:Nat → Int) (l:List PV):Sg:=sq0 T k ++ [(nm "letters",.fz (.list l))]
noncomputable abbrev sq2 (T:PV) (k:Nat → Int) (l h:List PV):Sg:=sq1 T k l ++ [(nm "held",.fz (.list h))]
noncomputable abbrev sq3 (T:PV) (k:Nat → Int) (l h q:List PV):Sg:=sq2 T k l h ++ [(nm "least",.fz (.list q))]
theorem le_0 (T:PV) (k:Nat → Int):ex (leG' cc m) (stm leB' 0) (sq0 T k)=asgR (leG' cc m) (nm "letters") (valS (stm leB' 0)) (sq0 T k) ((compLoop (lcF (leG' cc m) (valS (stm leB' 0)) (sq0 T k)) (upsV k)).bind fun l=>mkV (.list l)):=by kernel_rfl
theorem le_0e (T:PV) (k:Nat → Int) (x:Int):lcF (leG' cc m) (valS (stm leB' 0)) (sq0 T k) (.int x)=keepR (decide (x ≥ 0)) (.int x):=by kernel_rfl
theorem le_0a (T:PV) (k:Nat → Int) (l:List PV):asgR (leG' cc m) (nm "letters") (valS (stm leB' 0)) (sq0 T k) (some (.v (.list l)))=some (.next,sq1 T k l):=by kernel_rfl
theorem le_1 (tb k:Nat → Int) (l:List PV):(List.range 7).map (fun L=>ex (leG' cc m) (stm leB' 1) (sq1 (tbV L tb) k l))=mapT (List.range 7) fun L=>asgR (leG' cc m) (nm "held") (valS (stm leB' 1)) (sq1 (tbV L tb) k l) ((compLoop (lcF (leG' cc m) (valS (stm leB' 1)) (sq1 (tbV L tb) k l)) ((List.range (2 ^ L)).map fun (x:Nat)=>.int x)).bind fun l=>mkV (.list l)):=by kernel_rfl
theorem le_1e (tb k:Nat → Int) (l:List PV):lm.map (fun p=>lcF (leG' cc m) (valS (stm leB' 1)) (sq1 (tbV p.1 tb) k l) (.int p.2))=mapT lm fun p=>keepR (tb p.2 == 1) (.int p.2):=by kernel_rfl
theorem le_1a (T:PV) (k:Nat → Int) (l h:List PV):asgR (leG' cc m) (nm "held") (valS (stm leB' 1)) (sq1 T k l) (some (.v (.list h)))=some (.next,sq2 T k l h):=by kernel_rfl
theorem le_2 (T:PV) (k:Nat → Int) (l h:List PV):ex (leG' cc m) (stm leB' 2) (sq2 T k l h)=asgR (leG' cc m) (nm "least") (valS (stm leB' 2)) (sq2 T k l h) ((compLoop (lcF (leG' cc m) (valS (stm leB' 2)) (sq2 T k l h)) h).bind fun l=>mkV (.list l)):=by kernel_rfl
noncomputable def noneR (o:Option EV):Option Bool:=trV (chainE [.Eq] o [some (.v (.list []))])
noncomputable def keepO (o:Option Bool) (d:PV):Option (List PV):=(o.bind fun t=>bif t then some true else some false).bind fun b=>bif b then some [d] else some []
noncomputable def inS (e:E) (σ:Sg) (x:Nm) (d:PV):Sg:=match e with
 | .comp _ _ _ sc _=>putN x (.fz d) (inner sc σ)
 | _=>σ
noncomputable abbrev inC (G:Gl) (e:E):Gl:={ G with sc:=scE e }
theorem le_2e (T:PV) (k:Nat → Int) (l h:List PV) (x:Int):lcF (leG' cc m) (valS (stm leB' 2)) (sq2 T k l h) (.int x) =
  keepO (noneR ((compLoop (lcF (inC (leG' cc m) (valS (stm leB' 2))) (kid 0 (ifEP (valS (stm leB' 2)))) (inS (valS (stm leB' 2)) (sq2 T k l h) (nm "m") (.int x))) [.int 0,.int 1,.int 2,.int 3,.int 4,.int 5]).bind fun l=>mkV (.list l))) (.int x):=by kernel_rfl
theorem le_2i (tb k:Nat → Int) (l h:List PV):lmb.map (fun p=>lcF (inC (leG' cc m) (valS (stm leB' 2))) (kid 0 (ifEP (valS (stm leB' 2)))) (inS (valS (stm leB' 2)) (sq2 (tbV p.1.1 tb) k l h) (nm "m") (.int p.1.2)) (.int p.2)) =
  mapT lmb fun p=>bif p.1.2.testBit p.2 then keepO (keepC (tb (p.1.2 - 2 ^ p.2) == 1)) (.int p.2) else some []:=by kernel_rfl
theorem le_2a (T:PV) (k:Nat → Int) (l h q:List PV):asgR (leG' cc m) (nm "least") (valS (stm leB' 2)) (sq2 T k l h) (some (.v (.list q)))=some (.next,sq3 T k l h q):=by kernel_rfl
noncomputable def sortR (o:Option EV):Option EV:=(eachPV [o]).bind fun l=>(builtinP n_sorted l).bind mkV
theorem le_3 (T:PV) (k:Nat → Int) (l h q:List PV):ex (leG' cc m) (stm leB' 3) (sq3 T k l h q)=retR (sortR ((compLoop (lcF (leG' cc m) (kid 0 (valS (stm leB' 3))) (sq3 T k l h q)) q).bind fun l=>mkV (.list l))) (sq3 T k l h q):=by kernel_rfl
theorem le_3e (T:PV) (k lt:Nat → Int) (h q:List PV):lm.map (fun p=>lcF (leG' cc m) (kid 0 (valS (stm leB' 3))) (sq3 T k (letV p.1 lt) h q) (.int p.2))=mapT lm fun p=>cR (cc n_words [.list ((bits6 p.2).map fun b=>.int (lt b))]):=by kernel_rfl
end
noncomputable def leastP (L:Nat) (tb:Nat → Nat):List Nat:=((List.range (2 ^ L)).filter fun x=>tb x == 1).filter fun x=>((List.range 6).filter fun b=>x.testBit b && tb (x - 2 ^ b) == 1).isEmpty
noncomputable def wordsM (lt:Nat → Nat) (x:Nat):List Nat:=joinL ((sortN ((bits6 x).map lt)).map nameS)
noncomputable def sortV (ws:List (List Nat)):List PV:=(sortS (ws.map mkT)).map ofStr
theorem sortP_str (ws:List (List Nat)):sortP (ws.map .str)=some (sortV ws):=by
 cases ws with
 | nil=>rfl
 | cons w r=>
  show (strsP ((w :: r).map .str)).map (fun ss=>(sortS ss).map ofStr)=_
  rw [strsP_map]
  rfl
theorem insS_len (x:PySem.Str):∀ l,(insS x l).length=l.length + 1
 | []=>rfl
 | y :: r=>by
  rw [insS]
  cases Spec.ltCps y.cps.toList x.cps.toList
  ·rfl
  ·show (insS x r).length + 1=_; rw [insS_len x r]; rfl
theorem sortS_len:∀ l,(sortS l).length=l.length
 | []=>rfl
 | x :: r=>by rw [sortS,insS_len,sortS_len r]; rfl
theorem sortR_eq (ws:List (List Nat)) (h:ws.length < 64):sortR (some (.v (.list (ws.map .str))))=some (.v (.list (sortV ws))):=by
 show ((bif decide ((ws.map PV.str).length < 64) then (sortP (ws.map .str)).map PV.list else none).bind mkV)=_
 rw [decide_eq_true (by rw [List.length_map]; exact h),sortP_str]
 show mkV (.list (sortV ws))=_
 rw [szb_list]
 unfold sortV
 rw [List.length_map,sortS_len,List.length_map]; exact Nat.le_of_lt (Nat.lt_of_lt_of_le h (by decide))
theorem pvEq_nil (l:List Nat):pvEq (.list (nPV l)) (.list [])=some l.isEmpty:=by
 have h:okN 8 (.list (nPV l))=true:=by
  show (nPV l).all (okN 7)=true
  rw [List.all_eq_true]
  intro x hx
  obtain ⟨k,_,rfl⟩:=List.mem_map.mp hx
  rfl
 show (bif okN 8 (.list (nPV l)) && okN 8 (.list []) then some (eqDs (nPV l) []) else none)=_
 rw [h]
 cases l <;> rfl
theorem noneR_eq (l:List Nat) (h:l.length ≤ 1000):noneR ((some (nPV l)).bind fun l=>mkV (.list l))=some l.isEmpty:=by
 rw [Option.bind_some,szb_list _ (by unfold nPV; rw [List.length_map]; exact Nat.le_trans h (by decide))]
 show trV (((pvEq (.list (nPV l)) (.list [])).bind fun t=>some t).map fun b=>EV.v (.bool b))=_
 rw [pvEq_nil]
 rfl
theorem keepO_eq (b:Bool) (d:PV):keepO (some b) d=some (bif b then [d] else []):=by cases b <;> rfl
theorem keepR_eq (b:Bool) (d:PV):keepR b d=some (bif b then [d] else []):=by cases b <;> rfl
theorem keepC_eq (b:Bool):keepC b=some b:=by cases b <;> rfl
theorem compLoop_keep {g:PV → Option (List PV)} {f:Nat → Bool}:∀ {l:List Nat},(∀ x ∈ l,g (.int x)=some (bif f x then [.int x] else [])) → compLoop g (nPV l)=some (nPV (l.filter f))
 | [],_=>rfl
 | x :: r,h=>by
  have ih:=compLoop_keep (l:=r) fun y hy=>h y (.tail _ hy)
  unfold nPV at ih ⊢
  rw [List.map_cons,compLoop,h x (.head _),ih,List.filter_cons]
  cases f x <;> rfl
theorem compLoop_map {g:PV → Option (List PV)} {f:Nat → List Nat}:∀ {l:List Nat},(∀ x ∈ l,g (.int x)=some [.str (f x)]) → compLoop g (nPV l)=some ((l.map f).map .str)
 | [],_=>rfl
 | x :: r,h=>by
  have ih:=compLoop_map (l:=r) fun y hy=>h y (.tail _ hy)
  unfold nPV at ih ⊢
  rw [List.map_cons,compLoop,h x (.head _),ih]
  rfl
theorem nPV_len (l:List Nat):(nPV l).length=l.length:=by unfold nPV; rw [List.length_map]
section
variable (n:Nat)
theorem least_run {k:Nat → Int} {lf:Nat → Bool} {kn:Nat → Nat} (K:KindsOk k lf kn) (hk:∀ i,i < 7 → lf i=true → kn i < 26) (tb:Nat → Nat) (hs:(leastP (ltN lf kn).length tb).length < 64) :
  retOf (exs (leG' (O (n + 1)).call (O (n + 1)).meth) leB' (sq0 (tbV (ltN lf kn).length fun x=>(tb x:Nat)) k))=some (.list (sortV ((leastP (ltN lf kn).length tb).map (wordsM fun b=>(ltN lf kn).getD b 0)))):=by
 have hL:=ltN_len K
 have h26:∀ b,(ltN lf kn).getD b 0 < 26:=fun b=>by
  rw [List.getD_eq_getElem?_getD]
  cases h:(ltN lf kn)[b]? with
  | none=>decide
  | some x=>
   have hm:=List.mem_of_getElem? h
   unfold ltN at hm
   obtain ⟨i,hi,rfl⟩:=List.mem_map.mp hm
   obtain ⟨h1,h2⟩:=List.mem_filter.mp hi
   exact hk i (is7_lt h1) h2
 have hn:nPV (ltN lf kn)=letV (ltN lf kn).length fun b=>((ltN lf kn).getD b 0:Nat):=nPV_range _
 generalize hlt:(fun b=>(ltN lf kn).getD b 0)=lt at hn
 have hlt':∀ b,lt b < 26:=fun b=>by rw [← hlt]; exact h26 b
 generalize hLL:(ltN lf kn).length=L at hL hn hs
 have hn:nPV (ltN lf kn)=letV L fun b=>(lt b:Nat):=by rw [hn,← hlt]
 generalize hT:tbV L (fun x=>(tb x:Nat))=T
 show retOf (exs _ (dropS leB' 0) _)=_
 have s0:ex (leG' (O (n + 1)).call (O (n + 1)).meth) (stm leB' 0) (sq0 T k)=some (.next,sq1 T k (nPV (ltN lf kn))):=by
  rw [le_0,letters_eq K (le_0e _ _ T k),le_0a]
 rw [xs_at (b:=leB') 0 (by kernel_rfl) s0]
 have pl:2 ^ L ≤ 64:=(Nat.pow_le_pow_right (by decide) hL:2 ^ L ≤ 2 ^ 6)
 generalize hH:(List.range (2 ^ L)).filter (fun x=>tb x == 1)=H
 have hHl:H.length ≤ 64:=by rw [← hH]; exact Nat.le_trans (List.length_filter_le _ _) (by rw [List.length_range]; exact pl)
 have hHm:∀ x ∈ H,x < 2 ^ L:=fun x hx=>by rw [← hH] at hx; exact List.mem_range.mp (List.mem_filter.mp hx).1
 have s1:ex (leG' (O (n + 1)).call (O (n + 1)).meth) (stm leB' 1) (sq1 T k (nPV (ltN lf kn)))=some (.next,sq2 T k (nPV (ltN lf kn)) (nPV H)):=by
  rw [← hT,get_T (le_1 _ _ (fun x=>(tb x:Nat)) k (nPV (ltN lf kn))) (show L < 7 by exact Nat.lt_succ_of_le hL)]
  have e:=compLoop_keep (g:=lcF (leG' (O (n + 1)).call (O (n + 1)).meth) (valS (stm leB' 1)) (sq1 (tbV L fun x=>(tb x:Nat)) k (nPV (ltN lf kn)))) (f:=fun x=>tb x == 1) (l:=List.range (2 ^ L)) fun x hx=>by
   rw [get_M (le_1e _ _ (fun x=>(tb x:Nat)) k (nPV (ltN lf kn))) (lm_mem (show L < 7 by exact Nat.lt_succ_of_le hL) (List.mem_range.mp hx)),keepR_eq]
   congr 2
   show ((tb x:Int) == 1)=(tb x == 1)
   by_cases h:tb x=1
   ·rw [h]; rfl
   ·rw [beq_eq_false_iff_ne.mpr h,beq_eq_false_iff_ne.mpr (show (tb x:Int) ≠ 1 by exact mt Int.ofNat.inj h)]
  rw [show ((List.range (2 ^ L)).map fun (x:Nat)=>PV.int x)=nPV (List.range (2 ^ L)) from rfl,e,hH]
  show asgR _ _ _ _ (mkV (.list (nPV H)))=_
  rw [szb_list _ (by rw [nPV_len]; exact Nat.le_trans hHl (by decide)),le_1a]
 rw [xs_at (b:=leB') 1 (by kernel_rfl) s1]
 have hQ:H.filter (fun x=>((List.range 6).filter fun b=>x.testBit b && tb (x - 2 ^ b) == 1).isEmpty)=leastP L tb:=by rw [← hH]; rfl
 generalize leastP L tb=Q at hQ hs
 have hQm:∀ x ∈ Q,x < 2 ^ L:=fun x hx=>by rw [← hQ] at hx; exact hHm x (List.mem_filter.mp hx).1
 have s2:ex (leG' (O (n + 1)).call (O (n + 1)).meth) (stm leB' 2) (sq2 T k (nPV (ltN lf kn)) (nPV H))=some (.next,sq3 T k (nPV (ltN lf kn)) (nPV H) (nPV Q)):=by
  rw [le_2]
  have e:=compLoop_keep (g:=lcF (leG' (O (n + 1)).call (O (n + 1)).meth) (valS (stm leB' 2)) (sq2 T k (nPV (ltN lf kn)) (nPV H))) (f:=fun x=>((List.range 6).filter fun b=>x.testBit b && tb (x - 2 ^ b) == 1).isEmpty) (l:=H) fun x hx=>by
   rw [le_2e]
   have i:=compLoop_keep (g:=lcF (inC (leG' (O (n + 1)).call (O (n + 1)).meth) (valS (stm leB' 2))) (kid 0 (ifEP (valS (stm leB' 2)))) (inS (valS (stm leB' 2)) (sq2 T k (nPV (ltN lf kn)) (nPV H)) (nm "m") (.int x))) (f:=fun b=>x.testBit b && tb (x - 2 ^ b) == 1) (l:=List.range 6) fun b hb=>by
    have:=get_M (le_2i (O (n + 1)).call (O (n + 1)).meth (fun x=>(tb x:Nat)) k (nPV (ltN lf kn)) (nPV H)) (lmb_mem (lm_mem (show L < 7 by exact Nat.lt_succ_of_le hL) (hHm x hx)) (List.mem_range.mp hb))
    rw [hT] at this
    rw [this]
    show (bif x.testBit b then keepO (keepC ((tb (x - 2 ^ b):Int) == 1)) (.int b) else some [])=_
    rw [keepC_eq,keepO_eq]
    have eb:((tb (x - 2 ^ b):Int) == 1)=(tb (x - 2 ^ b) == 1):=by
     by_cases h:tb (x - 2 ^ b)=1
     ·rw [h]; rfl
     ·rw [beq_eq_false_iff_ne.mpr h,beq_eq_false_iff_ne.mpr (show (tb (x - 2 ^ b):Int) ≠ 1 by exact mt Int.ofNat.inj h)]
    rw [eb]
    cases x.testBit b <;> cases tb (x - 2 ^ b) == 1 <;> rfl
   have e6:nPV (List.range 6)=[.int 0,.int 1,.int 2,.int 3,.int 4,.int 5]:=rfl
   rw [e6] at i
   rw [i,noneR_eq _ (Nat.le_trans (List.length_filter_le _ _) (by decide)),keepO_eq]
  rw [e,hQ]
  show asgR _ _ _ _ (mkV (.list (nPV Q)))=_
  rw [szb_list _ (by rw [nPV_len]; exact Nat.le_of_lt (Nat.lt_of_lt_of_le hs (by decide))),le_2a]
 rw [xs_at (b:=leB') 2 (by kernel_rfl) s2]
 have s3:ex (leG' (O (n + 1)).call (O (n + 1)).meth) (stm leB' 3) (sq3 T k (nPV (ltN lf kn)) (nPV H) (nPV Q))=some (.ret (.list (sortV (Q.map (wordsM lt)))),sq3 T k (nPV (ltN lf kn)) (nPV H) (nPV Q)):=by
  rw [le_3]
  have e:=compLoop_map (g:=lcF (leG' (O (n + 1)).call (O (n + 1)).meth) (kid 0 (valS (stm leB' 3))) (sq3 T k (nPV (ltN lf kn)) (nPV H) (nPV Q))) (f:=wordsM lt) (l:=Q) fun x hx=>by
   have:=get_M (le_3e (O (n + 1)).call (O (n + 1)).meth T k (fun b=>(lt b:Nat)) (nPV H) (nPV Q)) (lm_mem (show L < 7 by exact Nat.lt_succ_of_le hL) (hQm x hx))
   rw [← hn] at this
   rw [this]
   show cR ((O (n + 1)).call n_words [.list ((bits6 x).map fun b=>PV.int (lt b:Nat))])=_
   rw [show ((bits6 x).map fun b=>PV.int (lt b:Nat))=nPV ((bits6 x).map lt) by unfold nPV; rw [List.map_map]; rfl,
    words_eq n _ (fun z hz=>by obtain ⟨b,_,rfl⟩:=List.mem_map.mp hz; exact hlt' b) (by rw [List.length_map]; exact Nat.le_trans (List.length_filter_le _ _) (by decide))]
   rfl
  rw [e,Option.bind_some,szb_list _ (by rw [List.length_map,List.length_map]; exact Nat.le_of_lt (Nat.lt_of_lt_of_le hs (by decide))),sortR_eq _ (by rw [List.length_map]; exact hs)]
  rfl
 rw [xs_ret (b:=leB') 3 (by kernel_rfl) s3]
 rfl
theorem least_eq {k:Nat → Int} {lf:Nat → Bool} {kn:Nat → Nat} (K:KindsOk k lf kn) (hk:∀ i,i < 7 → lf i=true → kn i < 26) (tb:Nat → Nat) (hs:(leastP (ltN lf kn).length tb).length < 64) :
  (O (n + 2)).call n_least [.list ((List.range (2 ^ (ltN lf kn).length)).map fun x=>.int (tb x:Nat)),.list (upsV k)]=some (.list (sortV ((leastP (ltN lf kn).length tb).map (wordsM fun b=>(ltN lf kn).getD b 0)))):=by
 refine call_def (D:=df n_least) (by kernel_rfl) (by kernel_rfl) (by kernel_rfl) ?_
 have e:zipArgs (df n_least).params [.list ((List.range (2 ^ (ltN lf kn).length)).map fun x=>.int (tb x:Nat)),.list (upsV k)]=sq0 (tbV (ltN lf kn).length fun x=>(tb x:Nat)) k:=by kernel_rfl
 rw [e]
 exact least_run n K hk tb hs
end
noncomputable def baB:List S:=(df n_bars).body
section
variable (cc m:Nm → List PV → Option PV)
noncomputable abbrev baG:Gl:=GD cc m (df n_bars)
noncomputable abbrev sv0 (w l:List PV):Sg:=[(nm "ways",.fz (.list w)),(nm "letters",.fz (.list l))]
noncomputable abbrev sv1 (w l a:List PV):Sg:=sv0 w l ++ [(nm "names",.fz (.list a))]
noncomputable abbrev sv2 (w l a s:List PV):Sg:=sv1 w l a ++ [(nm "sets",.fz (.list s))]
noncomputable def sgV:List PV:=[.int 1,.int 2,.int 4,.int 8,.int 16,.int 32]
noncomputable abbrev sv3 (w l a s:List PV):Sg:=sv2 w l a s ++ [(nm "singles",.fz (.list sgV))]
noncomputable abbrev sv4 (w l a s b:List PV):Sg:=sv3 w l a s ++ [(nm "bars",.fz (.list b))]
theorem ba_0 (w l:List PV):ex (baG cc m) (stm baB 0) (sv0 w l)=asgR (baG cc m) (nm "names") (valS (stm baB 0)) (sv0 w l) ((compLoop (lcF (baG cc m) (valS (stm baB 0)) (sv0 w l)) l).bind fun l=>mkV (.list l)):=by kernel_rfl
theorem ba_0e (w l:List PV) (d:PV):lcF (baG cc m) (valS (stm baB 0)) (sv0 w l) d=cR (cc n_words [.list [d]]):=by kernel_rfl
theorem ba_0a (w l a:List PV):asgR (baG cc m) (nm "names") (valS (stm baB 0)) (sv0 w l) (some (.v (.list a)))=some (.next,sv1 w l a):=by kernel_rfl
theorem ba_1 (w l a:List PV):ex (baG cc m) (stm baB 1) (sv1 w l a)=asgR (baG cc m) (nm "sets") (valS (stm baB 1)) (sv1 w l a) ((compLoop (lcF (baG cc m) (valS (stm baB 1)) (sv1 w l a)) w).bind fun l=>mkV (.list l)):=by kernel_rfl
theorem ba_1a (w l a s:List PV):asgR (baG cc m) (nm "sets") (valS (stm baB 1)) (sv1 w l a) (some (.v (.list s)))=some (.next,sv2 w l a s):=by kernel_rfl
noncomputable def sumR (o:Option EV):Option EV:=(eachPV [o]).bind fun l=>(builtinP n_sum l).bind mkV
theorem ba_1e (w l a:List PV) (s:List Nat):lcF (baG cc m) (valS (stm baB 1)) (sv1 w l a) (.str s) =
  oneR (sumR (lcR (itR (((splitAtP (mkT s) cbS).map PV.list).bind mkV)) (compLoop (lcF (inC (baG cc m) (valS (stm baB 1))) (kid 0 (kid 0 (valS (stm baB 1)))) (inS (valS (stm baB 1)) (sv1 w l a) (nm "way") (.str s)))))):=by kernel_rfl
theorem ba_1i (w l a:List PV) (s x:List Nat):lcF (inC (baG cc m) (valS (stm baB 1))) (kid 0 (kid 0 (valS (stm baB 1)))) (inS (valS (stm baB 1)) (sv1 w l a) (nm "way") (.str s)) (.str x)=oneR (binR .LShift (some (.v (.int 1))) (idxE (.str x) a)):=by kernel_rfl
theorem ba_2 (w l a s:List PV):ex (baG cc m) (stm baB 2) (sv2 w l a s)=some (.next,sv3 w l a s):=by kernel_rfl
theorem ba_3 (w a s:List PV) (lt:Nat → Int):(List.range 7).map (fun L=>ex (baG cc m) (stm baB 3) (sv3 w (letV L lt) a s))=mapT (List.range 7) fun L=>asgR (baG cc m) (nm "bars") (valS (stm baB 3)) (sv3 w (letV L lt) a s) ((compLoop (lcF (baG cc m) (valS (stm baB 3)) (sv3 w (letV L lt) a s)) ((List.range (2 ^ L)).map fun (x:Nat)=>.int x)).bind fun l=>mkV (.list l)):=by kernel_rfl
theorem ba_3e (w l a s:List PV) (x:Int):lcF (baG cc m) (valS (stm baB 3)) (sv3 w l a s) (.int x) =
  keepO (noneR ((compLoop (lcF (inC (baG cc m) (valS (stm baB 3))) (kid 0 (ifEP (valS (stm baB 3)))) (inS (valS (stm baB 3)) (sv3 w l a s) (nm "m") (.int x))) s).bind fun l=>mkV (.list l))) (.int x):=by kernel_rfl
theorem ba_3i (w l a s:List PV) (x y:Int):lcF (inC (baG cc m) (valS (stm baB 3))) (kid 0 (ifEP (valS (stm baB 3)))) (inS (valS (stm baB 3)) (sv3 w l a s) (nm "m") (.int x)) (.int y) =
  keepR (!(sgV.any fun z=>eqD z (.int (Builtin.bitAnd x y)))) (.int y):=by kernel_rfl
theorem ba_3a (w l a s b:List PV):asgR (baG cc m) (nm "bars") (valS (stm baB 3)) (sv3 w l a s) (some (.v (.list b)))=some (.next,sv4 w l a s b):=by kernel_rfl
theorem ba_4 (w l a s b:List PV):ex (baG cc m) (stm baB 4) (sv4 w l a s b)=retR (sortR ((compLoop (lcF (baG cc m) (kid 0 (valS (stm baB 4))) (sv4 w l a s b)) b).bind fun l=>mkV (.list l))) (sv4 w l a s b):=by kernel_rfl
theorem ba_4e (w a s b:List PV) (lt:Nat → Int):lm.map (fun p=>lcF (baG cc m) (kid 0 (valS (stm baB 4))) (sv4 w (letV p.1 lt) a s b) (.int p.2))=mapT lm fun p=>cR (cc n_words [.list ((bits6 p.2).map fun b=>.int (lt b))]):=by kernel_rfl
end
theorem name_in {k:Nat} (h:k < 26):(nameS k).length ≤ 20 ∧ plain (nameS k) ∧ ∀ j,j < 26 → (nmEq (nameS k) (nameS j))=(k == j):=by
 have:=List.all_eq_true.mp name_tab k (List.mem_range.mpr h)
 simp only [Bool.and_eq_true,decide_eq_true_eq] at this
 refine ⟨this.1.1,fun c hc=>?_,fun j hj=>?_⟩
 ·have:=List.all_eq_true.mp this.1.2 c hc
  exact bne_iff_ne.mp this
 ·exact beq_iff_eq.mp (List.all_eq_true.mp this.2 j (List.mem_range.mpr hj))
theorem name_okP:(List.range 26).all (fun k=>okN 8 (.str (nameS k)))=true:=by decide +kernel
theorem name_eq {k j:Nat} (h:k < 26) (hj:j < 26):pvEq (.str (nameS k)) (.str (nameS j))=some (k == j):=by
 have a:=List.all_eq_true.mp name_okP k (List.mem_range.mpr h)
 have b:=List.all_eq_true.mp name_okP j (List.mem_range.mpr hj)
 show (bif okN 8 (.str (nameS k)) && okN 8 (.str (nameS j)) then some (nmEq (nameS k) (nameS j)) else none)=_
 rw [a,b,(name_in h).2.2 j hj]
 rfl
theorem indexP_name {x:Nat} (hx:x < 26):∀ (l:List Nat) (n:Nat),(∀ y ∈ l,y < 26) → x ∈ l → indexP (.str (nameS x)) (l.map fun k=>.str (nameS k)) n=some (n + l.idxOf x)
 | y :: r,n,hl,h=>by
  rw [List.map_cons,indexP,name_eq (hl y (.head _)) hx]
  by_cases hy:y=x
  ·subst hy
   rw [beq_self_eq_true,Option.bind_some,cond_true,List.idxOf_cons,beq_self_eq_true,cond_true,Nat.add_zero]
  ·rw [show (y == x)=false from beq_eq_false_iff_ne.mpr hy]
   show indexP (.str (nameS x)) (r.map fun k=>.str (nameS k)) (n + 1)=_
   have hm:x ∈ r:=by
    rcases List.mem_cons.mp h with h | h
    ·exact absurd h.symm hy
    ·exact h
   rw [indexP_name hx r (n + 1) (fun z hz=>hl z (.tail _ hz)) hm,List.idxOf_cons,show (y == x)=false from beq_eq_false_iff_ne.mpr hy]
   simp only [cond_false]
   congr 1; exact Nat.add_right_comm _ _ _
noncomputable def placeM (ls ks:List Nat):Nat:=(ks.map fun k=>2 ^ ls.idxOf k).sum
noncomputable def oneS (z:Nat):Bool:=[1,2,4,8,16,32].any (· == z)
noncomputable def barsP (L:Nat) (S:List Nat):List Nat:=(List.range (2 ^ L)).filter fun x=>(S.filter fun y=>!oneS (x &&& y)).isEmpty
theorem sum_nPV:∀ (l:List Nat) (a:Nat),sumI (a:Int) (nPV l)=some (.int (a + l.sum:Nat))
 | [],a=>by simp [nPV,sumI]
 | x :: r,a=>by
  have:=sum_nPV r (a + x)
  unfold nPV at this ⊢
  show sumI ((a:Int) + (x:Int)) (r.map fun (k:Nat)=>PV.int k)=_
  rw [show (a:Int) + (x:Int)=((a + x:Nat):Int) from (Int.natCast_add a x).symm,this,List.sum_cons,Nat.add_assoc]
theorem oneR_v (d:PV):oneR (some (.v d))=some [d]:=rfl
theorem one_any (z:Nat):(sgV.any fun y=>eqD y (.int (z:Int)))=oneS z:=by
 have h (k:Nat):(((k:Nat):Int) == (z:Int))=(k == z):=by
  by_cases e:k=z
  ·rw [e,beq_self_eq_true,beq_self_eq_true]
  ·rw [beq_eq_false_iff_ne.mpr e]
   exact beq_eq_false_iff_ne.mpr fun q=>e (Int.ofNat.inj q)
 show (((1:Nat):Int) == (z:Int) || (((2:Nat):Int) == (z:Int) || (((4:Nat):Int) == (z:Int) || (((8:Nat):Int) == (z:Int) || (((16:Nat):Int) == (z:Int) || (((32:Nat):Int) == (z:Int) || false))))))=_
 rw [h,h,h,h,h,h]
 rfl
theorem compLoop_str {g:PV → Option (List PV)} {f:List Nat → List Nat} {k:List Nat → Nat}:∀ {l:List (List Nat)},(∀ x ∈ l,g (.str (f x))=some [.int (k x)]) → compLoop g (l.map fun x=>.str (f x))=some (nPV (l.map k))
 | [],_=>rfl
 | x :: r,h=>by
  have ih:=compLoop_str (l:=r) fun y hy=>h y (.tail _ hy)
  rw [List.map_cons,compLoop,h x (.head _),ih]
  rfl
section
variable (n:Nat)
theorem way_eq (w:List PV) (ls ks:List Nat) (h26:∀ k ∈ ls,k < 26) (hl:ls.length ≤ 6) (hk:∀ k ∈ ks,k ∈ ls) (hn:ks ≠ []) (hkl:ks.length ≤ 100) :
  lcF (baG (O (n + 1)).call (O (n + 1)).meth) (valS (stm baB 1)) (sv1 w (nPV ls) (ls.map fun k=>.str (nameS k))) (.str (joinL (ks.map nameS)))=some [.int (placeM ls ks)]:=by
 have hw:∀ x ∈ ks.map nameS,x.length ≤ 20 ∧ plain x:=fun x hx=>by
  obtain ⟨k,hk',rfl⟩:=List.mem_map.mp hx
  have:=name_in (h26 k (hk k hk'))
  exact ⟨this.1,this.2.1⟩
 have hj:=joinL_len _ fun x hx=>(hw x hx).1
 rw [List.length_map] at hj
 rw [ba_1e,split_eq (ks.map nameS) (fun x hx=>(hw x hx).2) (by intro e; exact hn (List.map_eq_nil_iff.mp e)) (by omega) (by rw [List.length_map]; exact Nat.le_trans hkl (by decide)),Option.map_some,Option.bind_some,szb_list _ (by rw [List.length_map,List.length_map]; exact Nat.le_trans hkl (by decide))]
 rw [itR_v,lcR_v]
 have e:compLoop (lcF (inC (baG (O (n + 1)).call (O (n + 1)).meth) (valS (stm baB 1))) (kid 0 (kid 0 (valS (stm baB 1)))) (inS (valS (stm baB 1)) (sv1 w (nPV ls) (ls.map fun k=>.str (nameS k))) (nm "way") (.str (joinL (ks.map nameS))))) ((ks.map nameS).map .str)=some (nPV (ks.map fun k=>2 ^ ls.idxOf k)):=by
  generalize joinL (ks.map nameS)=s
  clear hw hj hn hkl
  induction ks with
  | nil=>rfl
  | cons k r ih=>
   have ih:=ih fun z hz=>hk z (.tail _ hz)
   have hm:=hk k (.head _)
   have hlt:=List.idxOf_lt_length_of_mem hm
   have hx:idxE (.str (nameS k)) (ls.map fun k=>.str (nameS k))=mkV (.int (ls.idxOf k)):=by
    unfold idxE
    rw [List.length_map,small_of (by exact Nat.le_trans hl (by decide))]
    have h2:idxP (.str (nameS k)) (ls.map fun k=>.str (nameS k))=some (ls.idxOf k):=by
     show ((strsP (ls.map fun k=>PV.str (nameS k))).bind fun zz=>indexP (.str (nameS k)) (ls.map fun k=>PV.str (nameS k)) 0)=_
     rw [show (ls.map fun k=>PV.str (nameS k))=(ls.map nameS).map .str by rw [List.map_map]; rfl,strsP_map,Option.bind_some]
     rw [show ((ls.map nameS).map PV.str)=(ls.map fun k=>PV.str (nameS k)) by rw [List.map_map]; rfl,indexP_name (h26 k hm) ls 0 h26 hm,Nat.zero_add]
    rw [h2]
    rfl
   rw [List.map_cons,List.map_cons,compLoop,ba_1i,hx,get_tab lf_0t (show ls.idxOf k < 7 by exact Nat.le_trans (Nat.le_trans hlt hl) (by decide))]
   rw [oneR_v]
   rw [ih]
   rfl
 rw [e,Option.bind_some,szb_list _ (by rw [nPV_len,List.length_map]; exact Nat.le_trans hkl (by decide))]
 show oneR ((sumI 0 (nPV (ks.map fun k=>2 ^ ls.idxOf k))).bind mkV)=_
 rw [show (0:Int)=((0:Nat):Int) from rfl,sum_nPV,Nat.zero_add]
 rfl
theorem bars_run (ls:List Nat) (ws:List (List Nat)) (h26:∀ k ∈ ls,k < 26) (hl:ls.length ≤ 6) (hw:∀ ks ∈ ws,ks ≠ [] ∧ ks.length ≤ 100 ∧ ∀ k ∈ ks,k ∈ ls) (hwl:ws.length ≤ 1000) (hs:(barsP ls.length (ws.map (placeM ls))).length < 64) :
  retOf (exs (baG (O (n + 1)).call (O (n + 1)).meth) baB (sv0 (ws.map fun ks=>.str (joinL (ks.map nameS))) (nPV ls)))=some (.list (sortV ((barsP ls.length (ws.map (placeM ls))).map (wordsM fun b=>ls.getD b 0)))):=by
 generalize hW:(ws.map fun ks=>PV.str (joinL (ks.map nameS)))=W
 generalize hN:(ls.map fun k=>PV.str (nameS k))=N
 generalize hS:ws.map (placeM ls)=S at hs
 have hSl:S.length ≤ 1000:=by rw [← hS,List.length_map]; exact hwl
 show retOf (exs _ (dropS baB 0) _)=_
 have s0:ex (baG (O (n + 1)).call (O (n + 1)).meth) (stm baB 0) (sv0 W (nPV ls))=some (.next,sv1 W (nPV ls) N):=by
  rw [ba_0]
  have e:=compLoop_map (g:=lcF (baG (O (n + 1)).call (O (n + 1)).meth) (valS (stm baB 0)) (sv0 W (nPV ls))) (f:=nameS) (l:=ls) fun x hx=>by
   rw [ba_0e,show [PV.int (x:Int)]=nPV [x] from rfl,words_eq n [x] (fun z hz=>by rw [List.mem_singleton.mp hz]; exact h26 x hx) (by rw [List.length_singleton]; decide)]
   rfl
  rw [e,Option.bind_some,szb_list _ (by rw [List.length_map,List.length_map]; exact Nat.le_trans hl (by decide)),List.map_map,show (ls.map (PV.str ∘ nameS))=N from hN,ba_0a]
 rw [xs_at (b:=baB) 0 (by kernel_rfl) s0]
 have s1:ex (baG (O (n + 1)).call (O (n + 1)).meth) (stm baB 1) (sv1 W (nPV ls) N)=some (.next,sv2 W (nPV ls) N (nPV S)):=by
  rw [ba_1]
  have e:=compLoop_str (g:=lcF (baG (O (n + 1)).call (O (n + 1)).meth) (valS (stm baB 1)) (sv1 W (nPV ls) N)) (f:=fun ks=>joinL (ks.map nameS)) (k:=placeM ls) (l:=ws) fun ks hks=>by
   obtain ⟨h1,h2,h3⟩:=hw ks hks
   rw [← hN]
   exact way_eq n W ls ks h26 hl h3 h1 h2
  rw [hW] at e
  rw [e,hS,Option.bind_some,szb_list _ (by rw [nPV_len]; exact Nat.le_trans hSl (by decide)),ba_1a]
 rw [xs_at (b:=baB) 1 (by kernel_rfl) s1,xs_at (b:=baB) 2 (by kernel_rfl) (ba_2 _ _ W (nPV ls) N (nPV S))]
 have hn:nPV ls=letV ls.length fun b=>(ls.getD b 0:Nat):=nPV_range _
 have hlt':∀ b,ls.getD b 0 < 26:=fun b=>by
  rw [List.getD_eq_getElem?_getD]
  cases h:ls[b]? with
  | none=>decide
  | some x=>exact h26 x (List.mem_of_getElem? h)
 have pl:2 ^ ls.length ≤ 64:=(Nat.pow_le_pow_right (by decide) hl:2 ^ ls.length ≤ 2 ^ 6)
 have s3:ex (baG (O (n + 1)).call (O (n + 1)).meth) (stm baB 3) (sv3 W (nPV ls) N (nPV S))=some (.next,sv4 W (nPV ls) N (nPV S) (nPV (barsP ls.length S))):=by
  have t:=get_T (ba_3 (O (n + 1)).call (O (n + 1)).meth W N (nPV S) fun b=>(ls.getD b 0:Nat)) (show ls.length < 7 by exact Nat.lt_succ_of_le hl)
  rw [← hn] at t
  rw [t]
  have e:=compLoop_keep (g:=lcF (baG (O (n + 1)).call (O (n + 1)).meth) (valS (stm baB 3)) (sv3 W (nPV ls) N (nPV S))) (f:=fun x=>(S.filter fun y=>!oneS (x &&& y)).isEmpty) (l:=List.range (2 ^ ls.length)) fun x hx=>by
   rw [ba_3e]
   have i:=compLoop_keep (g:=lcF (inC (baG (O (n + 1)).call (O (n + 1)).meth) (valS (stm baB 3))) (kid 0 (ifEP (valS (stm baB 3)))) (inS (valS (stm baB 3)) (sv3 W (nPV ls) N (nPV S)) (nm "m") (.int x))) (f:=fun y=>!oneS (x &&& y)) (l:=S) fun y hy=>by
    rw [ba_3i,keepR_eq,and_nat,one_any]
   rw [i,noneR_eq _ (Nat.le_trans (List.length_filter_le _ _) hSl),keepO_eq]
  rw [show ((List.range (2 ^ ls.length)).map fun (x:Nat)=>PV.int x)=nPV (List.range (2 ^ ls.length)) from rfl,e]
  show asgR _ _ _ _ (mkV (.list (nPV (barsP ls.length S))))=_
  rw [szb_list _ (by rw [nPV_len]; exact Nat.le_of_lt (Nat.lt_of_lt_of_le hs (by decide))),ba_3a]
 rw [xs_at (b:=baB) 3 (by kernel_rfl) s3]
 have hQm:∀ x ∈ barsP ls.length S,x < 2 ^ ls.length:=fun x hx=>List.mem_range.mp (List.mem_filter.mp hx).1
 generalize barsP ls.length S=Q at hs hQm
 have s4:ex (baG (O (n + 1)).call (O (n + 1)).meth) (stm baB 4) (sv4 W (nPV ls) N (nPV S) (nPV Q))=some (.ret (.list (sortV (Q.map (wordsM fun b=>ls.getD b 0)))),sv4 W (nPV ls) N (nPV S) (nPV Q)):=by
  rw [ba_4]
  have e:=compLoop_map (g:=lcF (baG (O (n + 1)).call (O (n + 1)).meth) (kid 0 (valS (stm baB 4))) (sv4 W (nPV ls) N (nPV S) (nPV Q))) (f:=wordsM fun b=>ls.getD b 0) (l:=Q) fun x hx=>by
   have:=get_M (ba_4e (O (n + 1)).call (O (n + 1)).meth W N (nPV S) (nPV Q) (fun b=>(ls.getD b 0:Nat))) (lm_mem (show ls.length < 7 by exact Nat.lt_succ_of_le hl) (hQm x hx))
   rw [← hn] at this
   rw [this]
   show cR ((O (n + 1)).call n_words [.list ((bits6 x).map fun b=>PV.int (ls.getD b 0:Nat))])=_
   rw [show ((bits6 x).map fun b=>PV.int (ls.getD b 0:Nat))=nPV ((bits6 x).map fun b=>ls.getD b 0) by unfold nPV; rw [List.map_map]; rfl,
    words_eq n _ (fun z hz=>by obtain ⟨b,_,rfl⟩:=List.mem_map.mp hz; exact hlt' b) (by rw [List.length_map]; exact Nat.le_trans (List.length_filter_le _ _) (by decide))]
   rfl
  rw [e,Option.bind_some,szb_list _ (by rw [List.length_map,List.length_map]; exact Nat.le_of_lt (Nat.lt_of_lt_of_le hs (by decide))),sortR_eq _ (by rw [List.length_map]; exact hs)]
  rfl
 rw [xs_ret (b:=baB) 4 (by kernel_rfl) s4]
 rfl
theorem bars_eq (ls:List Nat) (ws:List (List Nat)) (h26:∀ k ∈ ls,k < 26) (hl:ls.length ≤ 6) (hw:∀ ks ∈ ws,ks ≠ [] ∧ ks.length ≤ 100 ∧ ∀ k ∈ ks,k ∈ ls) (hwl:ws.length ≤ 1000) (hs:(barsP ls.length (ws.map (placeM ls))).length < 64) :
  (O (n + 2)).call n_bars [.list (ws.map fun ks=>.str (joinL (ks.map nameS))),.list (nPV ls)]=some (.list (sortV ((barsP ls.length (ws.map (placeM ls))).map (wordsM fun b=>ls.getD b 0)))):=by
 refine call_def (D:=df n_bars) (by kernel_rfl) (by kernel_rfl) (by kernel_rfl) ?_
 have e:zipArgs (df n_bars).params [.list (ws.map fun ks=>.str (joinL (ks.map nameS))),.list (nPV ls)]=sv0 (ws.map fun ks=>.str (joinL (ks.map nameS))) (nPV ls):=by kernel_rfl
 rw [e]
 exact bars_run n ls ws h26 hl hw hwl hs
end
noncomputable def lfV (v:Nat → Nat) (i:Nat):Bool:=!(is6.any fun j=>v j == i)
noncomputable def eqN:List Nat → List Nat → Bool
 | [],[]=>true
 | a :: l,b :: m=>Nat.beq a b && eqN l m
 | _,_=>false
noncomputable def waysA (v:Nat → Nat) (a:Nat → Bool):List Nat:=sidesP a v (sInit a (lfV v) (posN (lfV v))) 0
noncomputable def chk1 (v:Nat → Nat) (a:Nat → Bool):Bool:=
 let L:=(is7.filter (lfV v)).length
 let A:=waysA v a
 let B:=waysA v fun i=>!a i
 eqN (sortN A) (sortN (leastP L (tbP (truthP' a (lfV v) L v)))) && eqN (sortN B) (sortN (barsP L A)) && A.all (fun x=>decide (0 < x) && decide (x < 2 ^ L)) && B.all (fun x=>decide (0 < x) && decide (x < 2 ^ L)) && decide (A.length < 64) && decide (B.length < 64)
noncomputable def vOf (l:List Nat) (i:Nat):Nat:=l.getD i 0
noncomputable def aOf (l:List Bool) (i:Nat):Bool:=l.getD i false
noncomputable def allV:Nat → List (List Nat)
 | 0=>[[0]]
 | n + 1=>(allV n).flatMap fun l=>(List.range (n + 1)).map fun c=>l ++ [c]
noncomputable def allA (v:Nat → Nat):Nat → List (List Bool)
 | 0=>[[]]
 | n + 1=>(allA v n).flatMap fun l=>bif lfV v n then [l ++ [false]] else [l ++ [false],l ++ [true]]
noncomputable def chkR (k:Nat):Bool:=(((allV 6).drop (30 * k)).take 30).all fun l=>(allA (vOf l) 7).all fun b=>chk1 (vOf l) (aOf b)
theorem chk_0:chkR 0=true:=by kernel_rfl
theorem chk_1:chkR 1=true:=by kernel_rfl
theorem chk_2:chkR 2=true:=by kernel_rfl
theorem chk_3:chkR 3=true:=by kernel_rfl
theorem chk_4:chkR 4=true:=by kernel_rfl
theorem chk_5:chkR 5=true:=by kernel_rfl
theorem chk_6:chkR 6=true:=by kernel_rfl
theorem chk_7:chkR 7=true:=by kernel_rfl
theorem chk_8:chkR 8=true:=by kernel_rfl
theorem chk_9:chkR 9=true:=by kernel_rfl
theorem chk_10:chkR 10=true:=by kernel_rfl
theorem chk_11:chkR 11=true:=by kernel_rfl
theorem chk_12:chkR 12=true:=by kernel_rfl
theorem chk_13:chkR 13=true:=by kernel_rfl
theorem chk_14:chkR 14=true:=by kernel_rfl
theorem chk_15:chkR 15=true:=by kernel_rfl
theorem chk_16:chkR 16=true:=by kernel_rfl
theorem chk_17:chkR 17=true:=by kernel_rfl
theorem chk_18:chkR 18=true:=by kernel_rfl
theorem chk_19:chkR 19=true:=by kernel_rfl
theorem chk_20:chkR 20=true:=by kernel_rfl
theorem chk_21:chkR 21=true:=by kernel_rfl
theorem chk_22:chkR 22=true:=by kernel_rfl
theorem chk_23:chkR 23=true:=by kernel_rfl
open List (Perm)
theorem insN_perm (x:Nat):∀ l:List Nat,Perm (insN x l) (x :: l)
 | []=>.refl _
 | y :: r=>by
  rw [insN]
  cases decide (x ≤ y)
  ·exact ((insN_perm x r).cons y).trans (.swap x y r)
  ·exact .refl _
theorem sortN_perm:∀ l:List Nat,Perm (sortN l) l
 | []=>.refl _
 | x :: r=>(insN_perm x _).trans ((sortN_perm r).cons x)
theorem insN_sorted (x:Nat):∀ l:List Nat,l.Pairwise (· ≤ ·) → (insN x l).Pairwise (· ≤ ·)
 | [],_=>List.pairwise_singleton _ _
 | y :: r,h=>by
  rw [insN]
  obtain ⟨h1,h2⟩:=List.pairwise_cons.mp h
  by_cases hx:x ≤ y
  ·rw [decide_eq_true hx]
   exact List.pairwise_cons.mpr ⟨fun z hz=>(List.mem_cons.mp hz).elim (fun e=>e ▸ hx) fun hz=>Nat.le_trans hx (h1 z hz),h⟩
  ·rw [decide_eq_false hx]
   exact List.pairwise_cons.mpr ⟨fun z hz=>(insN_mem hz).elim (fun e=>by omega) (h1 z),insN_sorted x r h2⟩
theorem sortN_sorted:∀ l:List Nat,(sortN l).Pairwise (· ≤ ·)
 | []=>.nil
 | x :: r=>insN_sorted x _ (sortN_sorted r)
theorem insS_pm (x:PySem.Str):∀ l:List PySem.Str,Perm (insS x l) (x :: l)
 | []=>.refl _
 | y :: r=>by
  rw [insS]
  cases Spec.ltCps y.cps.toList x.cps.toList
  ·exact .refl _
  ·exact ((insS_pm x r).cons y).trans (.swap x y r)
theorem sortS_pm:∀ l:List PySem.Str,Perm (sortS l) l
 | []=>.refl _
 | x :: r=>(insS_pm x _).trans ((sortS_pm r).cons x)
noncomputable abbrev leSt (a b:PySem.Str):Prop:=a.cps.toList ≤ b.cps.toList
theorem insS_sorted (x:PySem.Str):∀ l:List PySem.Str,l.Pairwise leSt → (insS x l).Pairwise leSt
 | [],_=>List.pairwise_singleton _ _
 | y :: r,h=>by
  rw [insS]
  obtain ⟨h1,h2⟩:=List.pairwise_cons.mp h
  rw [ltCps_eq]
  by_cases hx:y.cps.toList < x.cps.toList
  ·rw [decide_eq_true hx]
   exact List.pairwise_cons.mpr ⟨fun z hz=>(List.mem_cons.mp ((insS_pm x r).mem_iff.mp hz)).elim (fun e=>e ▸ List.le_of_lt hx) (h1 z),insS_sorted x r h2⟩
  ·rw [decide_eq_false hx]
   have hx:=List.not_lt.mp hx
   exact List.pairwise_cons.mpr ⟨fun z hz=>(List.mem_cons.mp hz).elim (fun e=>e ▸ hx) fun hz=>List.le_trans hx (h1 z hz),h⟩
theorem sortS_sorted:∀ l:List PySem.Str,(sortS l).Pairwise leSt
 | []=>.nil
 | x :: r=>insS_sorted x _ (sortS_sorted r)
theorem sortS_congr {l l':List PySem.Str} (h:Perm l l'):sortS l=sortS l':=
 Perm.eq_of_pairwise (le:=leSt) (fun a b zz zz h1 h2=>PySem.Str.ext' (Array.toList_inj.mp (List.le_antisymm h1 h2))) (sortS_sorted l) (sortS_sorted l') ((sortS_pm l).trans (h.trans (sortS_pm l').symm))
theorem sortV_congr {l l':List (List Nat)} (h:Perm l l'):sortV l=sortV l':=by
 unfold sortV; rw [sortS_congr (h.map mkT)]
theorem eqN_iff:∀ {a b:List Nat},eqN a b=true → a=b
 | [],[],_=>rfl
 | x :: a,y :: b,h=>by
  have h:(Nat.beq x y && eqN a b)=true:=h
  simp only [Bool.and_eq_true] at h
  rw [Nat.eq_of_beq_eq_true h.1,eqN_iff h.2]
theorem perm_map_inv {α:Type} [DecidableEq α] {β:Type} {f:α → β}:∀ {p:List β} {l:List α},Perm p (l.map f) → ∃ l',Perm l' l ∧ p=l'.map f
 | [],[],_=>⟨[],.refl _,rfl⟩
 | [],x :: r,h=>by have:=h.length_eq; cases this
 | x :: p,l,h=>by
  obtain ⟨a,ha,rfl⟩:=List.mem_map.mp (h.mem_iff.mp (.head _))
  have e:=List.perm_cons_erase ha
  obtain ⟨l',h1,h2⟩:=perm_map_inv (Perm.cons_inv (h.trans (e.map f)))
  exact ⟨a :: l',(h1.cons a).trans e.symm,by rw [List.map_cons,h2]⟩
theorem sortV_map (l:List (List Nat)) (g:List Nat → List Nat):∃ l',Perm l' l ∧ sortV (l.map g)=l'.map fun x=>.str (g x):=by
 have:=sortS_pm ((l.map g).map mkT)
 rw [List.map_map] at this
 obtain ⟨l',h1,h2⟩:=perm_map_inv this
 refine ⟨l',h1,?_⟩
 unfold sortV
 rw [List.map_map,h2,List.map_map]
 rfl
noncomputable def phi (ls:List Nat) (x:Nat):Nat:=(bits6 x).foldr (fun b s=>2 ^ ls.getD b 0 ||| s) 0
theorem phi_bit (ls:List Nat) (x j:Nat):(phi ls x).testBit j=(bits6 x).any fun b=>ls.getD b 0 == j:=by
 unfold phi
 induction bits6 x with
 | nil=>simp
 | cons b r ih=>
  rw [List.foldr_cons,Nat.testBit_or,ih,List.any_cons,Nat.testBit_two_pow]
  rfl
theorem mem_bits {x b:Nat}:b ∈ bits6 x ↔ b < 6 ∧ x.testBit b=true:=by
 unfold bits6; rw [List.mem_filter,List.mem_range]
theorem phi_or (ls:List Nat) (x y:Nat):phi ls (x ||| y)=phi ls x ||| phi ls y:=by
 apply Nat.eq_of_testBit_eq
 intro j
 rw [Nat.testBit_or,phi_bit,phi_bit,phi_bit,Bool.eq_iff_iff]
 simp only [List.any_eq_true,Bool.or_eq_true,mem_bits,Nat.testBit_or]
 constructor
 ·rintro ⟨b,⟨h1,h2 | h2⟩,h3⟩
  ·exact .inl ⟨b,⟨h1,h2⟩,h3⟩
  ·exact .inr ⟨b,⟨h1,h2⟩,h3⟩
 ·rintro (⟨b,⟨h1,h2⟩,h3⟩ | ⟨b,⟨h1,h2⟩,h3⟩)
  ·exact ⟨b,⟨h1,.inl h2⟩,h3⟩
  ·exact ⟨b,⟨h1,.inr h2⟩,h3⟩
theorem phi_pow (ls:List Nat) {p:Nat} (h:p < 6):phi ls (2 ^ p)=2 ^ ls.getD p 0:=by
 have:bits6 (2 ^ p)=[p]:=by
  have t:(List.range 6).all (fun p=>bits6 (2 ^ p) == [p])=true:=by decide +kernel
  exact beq_iff_eq.mp (List.all_eq_true.mp t p (List.mem_range.mpr h))
 unfold phi
 rw [this]
 simp
theorem mgP_map {f:Nat → Nat} (hf:∀ x y,f (x ||| y)=f x ||| f y) (b:Bool) (x y:List Nat):mgP b (x.map f) (y.map f)=(mgP b x y).map f:=by
 unfold mgP
 cases b
 ·simp
 ·simp only [cond_true,List.flatMap_map,List.map_flatMap,List.map_map,Function.comp_def,hf]
theorem step_map {f:Nat → Nat} (hf:∀ x y,f (x ||| y)=f x ||| f y) (a:Nat → Bool) (v:Nat → Nat) {s s':Nat → List Nat} (h:∀ j,j < 7 → s' j=(s j).map f) {i:Nat} (hi:i < 7) (hv:v i < 7):∀ j,j < 7 → stepU a v s' i j=(stepU a v s i j).map f:=by
 intro j hj
 unfold stepU upd
 cases j == v i
 ·exact h j hj
 ·simp only [cond_true]
  rw [h _ hv,h _ hi,mgP_map hf]
theorem fold_map {f:Nat → Nat} (hf:∀ x y,f (x ||| y)=f x ||| f y) (a:Nat → Bool) (v:Nat → Nat):∀ (l:List Nat) {s s':Nat → List Nat},(∀ j,j < 7 → s' j=(s j).map f) → (∀ i ∈ l,i < 7 ∧ v i < 7) → ∀ j,j < 7 → l.foldl (stepU a v) s' j=(l.foldl (stepU a v) s j).map f
 | [],_,_,h,_=>h
 | i :: l,s,s',h,hl=>by
  obtain ⟨h1,h2⟩:=hl i (.head _)
  exact fold_map hf a v l (step_map hf a v h h1 h2) fun z hz=>hl z (.tail _ hz)
theorem sides_map {f:Nat → Nat} (hf:∀ x y,f (x ||| y)=f x ||| f y) (a:Nat → Bool) (v:Nat → Nat) (hv:∀ i,1 ≤ i → i ≤ 6 → v i < i) {s s':Nat → List Nat} (h:∀ j,j < 7 → s' j=(s j).map f):sidesP a v s' 0=(sidesP a v s 0).map f:=
 fold_map hf a v down h (fun i hi=>by
  have:=(by decide:∀ i ∈ down,1 ≤ i ∧ i ≤ 6) i hi
  exact ⟨Nat.lt_succ_of_le this.2,Nat.lt_of_lt_of_le (hv i this.1 this.2) (Nat.le_succ_of_le this.2)⟩) 0 (by decide)
section
variable {ls:List Nat} (h26:∀ k ∈ ls,k < 26) (hl:ls.length ≤ 6) (nd:ls.Nodup)
theorem getD_mem {b:Nat} (hb:b < ls.length):ls.getD b 0 ∈ ls ∧ ls.getD b 0=ls[b]:=by
 rw [List.getD_eq_getElem?_getD,List.getElem?_eq_getElem hb]
 exact ⟨List.getElem_mem hb,rfl⟩
include nd in
theorem idx_getD {b:Nat} (hb:b < ls.length):ls.idxOf (ls.getD b 0)=b:=by
 rw [(getD_mem hb).2]
 exact nd.idxOf_getElem b hb
theorem bit_lt {x b:Nat} (hx:x < 2 ^ ls.length) (hb:b ∈ bits6 x):b < ls.length:=by
 have:=Nat.ge_two_pow_of_testBit (mem_bits.mp hb).2
 exact (Nat.pow_lt_pow_iff_right (by decide)).mp (Nat.lt_of_le_of_lt this hx)
include nd in
theorem places_nodup {x:Nat} (hx:x < 2 ^ ls.length):((bits6 x).map fun b=>ls.getD b 0).Nodup:=by
 have h0:(bits6 x).Nodup:=List.Nodup.sublist List.filter_sublist List.nodup_range
 unfold List.Nodup at h0 ⊢
 rw [List.pairwise_map]
 refine List.Pairwise.imp_of_mem ?_ h0
 intro a b ha hb hab e
 have:=congrArg ls.idxOf e
 rw [idx_getD nd (bit_lt hx ha),idx_getD nd (bit_lt hx hb)] at this
 exact hab this
include nd in
include h26 in
theorem bits_phi {x:Nat} (hx:x < 2 ^ ls.length):bitsF (phi ls x)=sortN ((bits6 x).map fun b=>ls.getD b 0):=by
 refine Perm.eq_of_pairwise (le:=(· ≤ ·)) (fun a b zz zz h1 h2=>Nat.le_antisymm h1 h2) ?_ (sortN_sorted _) ?_
 ·have:(bitsF (phi ls x)).Pairwise (· < ·):=List.Pairwise.sublist List.filter_sublist List.pairwise_lt_range
  exact this.imp Nat.le_of_lt
 ·refine Perm.trans ?_ (sortN_perm _).symm
  refine (List.perm_ext_iff_of_nodup (List.Nodup.sublist List.filter_sublist List.nodup_range) (places_nodup nd hx)).mpr fun k=>?_
  rw [List.mem_filter,List.mem_range,phi_bit,List.mem_map]
  simp only [List.any_eq_true,beq_iff_eq]
  constructor
  ·rintro ⟨_,b,hb,e⟩; exact ⟨b,hb,e⟩
  ·rintro ⟨b,hb,e⟩
   exact ⟨e ▸ h26 _ (getD_mem (bit_lt hx hb)).1,b,hb,e⟩
include nd in
include h26 in
include hl in
theorem place_phi {x:Nat} (hx:x < 2 ^ ls.length):placeM ls (bitsF (phi ls x))=x:=by
 unfold placeM
 rw [bits_phi h26 nd hx]
 have p:=((sortN_perm ((bits6 x).map fun b=>ls.getD b 0)).map fun k=>2 ^ ls.idxOf k).sum_nat
 rw [p,List.map_map]
 have e:(bits6 x).map ((fun k=>2 ^ ls.idxOf k) ∘ fun b=>ls.getD b 0)=(bits6 x).map fun b=>2 ^ b:=by
  apply List.map_congr_left
  intro b hb
  simp only [Function.comp]
  rw [idx_getD nd (bit_lt hx hb)]
 rw [e]
 have t:(List.range 64).all (fun x=>((bits6 x).map fun b=>2 ^ b).sum == x)=true:=by decide +kernel
 have h64:x < 64:=Nat.lt_of_lt_of_le hx (Nat.pow_le_pow_right (by decide) hl:2 ^ ls.length ≤ 2 ^ 6)
 exact beq_iff_eq.mp (List.all_eq_true.mp t x (List.mem_range.mpr h64))
include h26 in
theorem phi_lt {x:Nat} (hx:x < 2 ^ ls.length):phi ls x < 2 ^ 26:=by
 apply Nat.lt_pow_two_of_testBit
 intro j hj
 rw [phi_bit,List.any_eq_false]
 intro b hb e
 have:=h26 _ (getD_mem (bit_lt hx hb)).1
 rw [beq_iff_eq.mp e] at this
 exact (Nat.lt_irrefl _ (Nat.lt_of_le_of_lt hj this)).elim
theorem phi_ne {x:Nat} (hx:x < 64) (h0:0 < x):phi ls x ≠ 0:=by
 have t:(List.range 64).all (fun x=>x == 0 || !(bits6 x).isEmpty)=true:=by decide +kernel
 have:=List.all_eq_true.mp t x (List.mem_range.mpr hx)
 rw [show (x == 0)=false from beq_eq_false_iff_ne.mpr (by exact Nat.ne_of_gt h0),Bool.false_or] at this
 intro e
 cases hb:bits6 x with
 | nil=>rw [hb] at this; cases this
 | cons b r=>
  have hbit:=phi_bit ls x (ls.getD b 0)
  rw [e,hb] at hbit
  simp at hbit
end
theorem barsP_congr {L:Nat} {S S':List Nat} (h:Perm S S'):barsP L S=barsP L S':=by
 unfold barsP
 apply List.filter_congr
 intro x _
 have p:=h.filter fun y=>!oneS (x &&& y)
 have e:=p.length_eq
 cases h1:S.filter (fun y=>!oneS (x &&& y)) <;> cases h2:S'.filter (fun y=>!oneS (x &&& y)) <;> rw [h1,h2] at e <;> first | rfl | cases e
theorem nmEq_refl:∀ l:List Nat,nmEq l l=true
 | []=>rfl
 | a :: l=>by show (a == a && nmEq l l)=true; rw [nmEq_refl l]; simp
theorem eqD_refl:∀ (n:Nat) (d:PV),okN n d=true → eqD d d=true:=by
 have lst:∀ (n:Nat),(∀ d,okN n d=true → eqD d d=true) → ∀ l:List PV,l.all (okN n)=true → eqDs l l=true:=by
  intro n ih l
  induction l with
  | nil=>intro _; rfl
  | cons x r ihr=>
   intro h
   rw [List.all_cons,Bool.and_eq_true] at h
   show (eqD x x && eqDs r r)=true
   rw [ih x h.1,ihr h.2]; rfl
 intro n
 induction n with
 | zero=>
  intro d h
  cases d with
  | none=>rfl
  | bool b=>cases b <;> rfl
  | int i=>show (i == i)=true; simp
  | str s=>exact nmEq_refl s
  | _=>cases h
 | succ n ih=>
  intro d h
  cases d with
  | none=>rfl
  | bool b=>cases b <;> rfl
  | int i=>show (i == i)=true; simp
  | str s=>exact nmEq_refl s
  | list l=>exact lst n ih l h
  | tuple l=>exact lst n ih l h
  | _=>cases h
theorem pv_self {d:PV} (h:okN 8 d=true):pvEq d d=some true:=by
 show (bif okN 8 d && okN 8 d then some (eqD d d) else none)=_
 rw [h,eqD_refl 8 d h]; rfl
theorem ne_self {d:PV} (h:okN 8 d=true):neR (some (.v d)) (some (.v d))=some false:=by
 show trV ((((pvEq d d).map (!·)).bind fun t=>some t).map fun b=>EV.v (.bool b))=_
 rw [pv_self h]; rfl
noncomputable abbrev Low (x:PySem.Str):Prop:=(∀ c ∈ x.cps.toList,c < 1114112)
theorem low_app {a b:PySem.Str} (ha:Low a) (hb:Low b):Low (a ++ b):=by
 intro c hc
 have hc:c ∈ (a.cps ++ b.cps).toList:=hc
 rw [Array.toList_append] at hc
 exact (List.mem_append.mp hc).elim (ha c) (hb c)
theorem low_of {x:PySem.Str} (h:(x.cps.toList.all fun c=>decide (c < 1114112))=true):Low x:=fun c hc=>of_decide_eq_true (List.all_eq_true.mp h c hc)
noncomputable abbrev Sh (n:Nat) (x:PySem.Str):Prop:=Low x ∧ x.length ≤ n
theorem text_low (B:Nat):∀ (ts:List PySem.Str) (k:Nat) (acc:PySem.Str),Low acc → (∀ t ∈ ts,Sh B t) → Low (textFrom k acc ts) ∧ (textFrom k acc ts).length ≤ acc.length + ts.length * (B + 2)
 | [],k,acc,h,_=>⟨h,by show acc.length ≤ _; simp⟩
 | t :: ts,k,acc,h,ht=>by
  obtain ⟨h1,h2⟩:=ht t (.head _)
  have hs:Sh 2 ((if k > 0 then ", " else "" : String):PySem.Str):=by
   split
   ·exact ⟨low_of (by decide +kernel),by decide +kernel⟩
   ·exact ⟨low_of (by decide +kernel),by decide +kernel⟩
  obtain ⟨l1,l2⟩:=text_low B ts (k + 1) (acc ++ (if k > 0 then ", " else "" : String) ++ t) (low_app (low_app h hs.1) h1) fun z hz=>ht z (.tail _ hz)
  refine ⟨l1,Nat.le_trans l2 ?_⟩
  rw [PySem.Str.length_append,PySem.Str.length_append]
  have:=hs.2
  rw [List.length_cons,Nat.succ_mul]
  omega
theorem list_sh {B n:Nat} {ts:List PySem.Str} (h:∀ t ∈ ts,Sh B t) (hn:ts.length ≤ n):Sh (2 + n * (B + 2)) (listText ts):=by
 have l:Sh 1 ("[" : PySem.Str):=⟨low_of (by decide +kernel),by decide +kernel⟩
 have r:Sh 1 ("]" : PySem.Str):=⟨low_of (by decide +kernel),by decide +kernel⟩
 obtain ⟨h1,h2⟩:=text_low B ts 0 "[" l.1 h
 refine ⟨low_app h1 r.1,?_⟩
 show (textFrom 0 "[" ts ++ "]").length ≤ _
 rw [PySem.Str.length_append]
 have:=Nat.mul_le_mul_right (B + 2) hn
 have:=l.2
 have:=r.2
 omega
theorem bool_sh (b:Bool):Sh 5 (PyData.shown (.bool b)):=by
 cases b
 ·exact ⟨low_of (by decide +kernel),by decide +kernel⟩
 ·exact ⟨low_of (by decide +kernel),by decide +kernel⟩
theorem shownAll_map:∀ l:List PyData,PyData.shownAll l=l.map PyData.shown
 | []=>by simp [PyData.shownAll]
 | x :: r=>by simp [PyData.shownAll,shownAll_map r]
theorem toDs_map:∀ l:List PV,toDs l=l.map toD
 | []=>by simp [toDs]
 | x :: r=>by simp [toDs,toDs_map r]
theorem row_sh (bs:List Bool) (h:bs.length ≤ 7):Sh 60 (PyData.shown (toD (.list (bs.map .bool)))):=by
 have e:PyData.shown (toD (.list (bs.map .bool)))=listText (bs.map fun b=>PyData.shown (.bool b)):=by
  simp only [toD,PyData.shown,shownAll_map,toDs_map,List.map_map,Function.comp_def]
 rw [e]
 have:=list_sh (B:=5) (n:=7) (ts:=bs.map fun b=>PyData.shown (.bool b)) (fun t ht=>by obtain ⟨b,_,rfl⟩:=List.mem_map.mp ht; exact bool_sh b) (by rw [List.length_map]; exact h)
 exact ⟨this.1,Nat.le_trans this.2 (by decide)⟩
theorem showable_bools:∀ bs:List Bool,PyData.showableAll (bs.map PyData.bool)=true ∧ PyData.hasDictAll (bs.map PyData.bool)=false
 | []=>by simp [PyData.showableAll,PyData.hasDictAll]
 | b :: r=>by simp [PyData.showableAll,PyData.hasDictAll,PyData.showable,PyData.hasDict,showable_bools r]
theorem row_ok' (bs:List Bool):(toD (.list (bs.map .bool))).showable=true ∧ (toD (.list (bs.map .bool))).hasDict=false:=by
 simp only [toD,PyData.showable,PyData.hasDict,toDs_map,List.map_map,Function.comp_def]
 exact showable_bools bs
theorem showable_all:∀ l:List PyData,(∀ d ∈ l,d.showable=true ∧ d.hasDict=false) → PyData.showableAll l=true ∧ PyData.hasDictAll l=false
 | [],_=>by simp [PyData.showableAll,PyData.hasDictAll]
 | x :: r,h=>by
  have h1:=h x (.head _)
  have h2:=showable_all r fun z hz=>h z (.tail _ hz)
  simp [PyData.showableAll,PyData.hasDictAll,h1,h2]
theorem repr_rows (rows:List (List Bool)) (h:rows.length ≤ 7) (hr:∀ r ∈ rows,r.length ≤ 7):neR (repR (.list (rows.map fun r=>.list (r.map .bool)))) (repR (.list (rows.map fun r=>.list (r.map .bool))))=some false:=by
 have e1:okN 8 (.list (rows.map fun r=>.list (r.map .bool)))=true:=by
  show (rows.map fun r=>PV.list (r.map .bool)).all (okN 7)=true
  rw [List.all_eq_true]
  intro x hx
  obtain ⟨r,_,rfl⟩:=List.mem_map.mp hx
  show (r.map PV.bool).all (okN 6)=true
  rw [List.all_eq_true]
  intro y hy
  obtain ⟨b,_,rfl⟩:=List.mem_map.mp hy
  rfl
 have e2:(toD (.list (rows.map fun r=>.list (r.map .bool)))).showable=true ∧ (toD (.list (rows.map fun r=>.list (r.map .bool)))).hasDict=false:=by
  have:toD (.list (rows.map fun r=>.list (r.map .bool)))=.list (rows.map fun r=>toD (.list (r.map .bool))):=by simp only [toD,toDs_map,List.map_map,Function.comp_def]
  rw [this]
  simp only [PyData.showable,PyData.hasDict]
  exact showable_all _ fun d hd=>by obtain ⟨r,_,rfl⟩:=List.mem_map.mp hd; exact row_ok' r
 have e3:Sh 500 (PyData.shown (toD (.list (rows.map fun r=>.list (r.map .bool))))):=by
  have:PyData.shown (toD (.list (rows.map fun r=>.list (r.map .bool))))=listText (rows.map fun r=>PyData.shown (toD (.list (r.map .bool)))):=by
   simp only [toD,toDs_map,PyData.shown,shownAll_map,List.map_map,Function.comp_def]
  rw [this]
  have:=list_sh (B:=60) (n:=7) (ts:=rows.map fun r=>PyData.shown (toD (.list (r.map .bool)))) (fun t ht=>by obtain ⟨r,h',rfl⟩:=List.mem_map.mp ht; exact row_sh r (hr r h')) (by rw [List.length_map]; exact h)
  exact ⟨this.1,Nat.le_trans this.2 (by decide)⟩
 generalize hd:toD (.list (rows.map fun r=>.list (r.map .bool)))=D at e2 e3
 have e4:repR (.list (rows.map fun r=>.list (r.map .bool)))=some (.v (.str D.shown.cps.toList)):=by
  show (((bif okN 8 (.list (rows.map fun r=>.list (r.map .bool))) && (toD (.list (rows.map fun r=>.list (r.map .bool)))).showable && !(toD (.list (rows.map fun r=>.list (r.map .bool)))).hasDict && smallN (toD (.list (rows.map fun r=>.list (r.map .bool)))).shown.length then some (toD (.list (rows.map fun r=>.list (r.map .bool)))).shown.cps.toList else none).map PV.str).bind mkV)=_
  rw [hd,e1,e2.1,e2.2,small_of (by have:=e3.2; exact Nat.le_trans this (by decide))]
  show (bif smallN D.shown.cps.toList.length then some (EV.v (.str D.shown.cps.toList)) else none)=_
  rw [small_of (by have:D.shown.cps.toList.length=D.shown.length:=rfl; rw [this]; have:=e3.2; exact Nat.le_trans this (by decide))]
  rfl
 rw [e4]
 refine ne_self ?_
 show (D.shown.cps.toList.all fun c=>decide (c < 1114112))=true
 rw [List.all_eq_true]
 exact fun c hc=>decide_eq_true (e3.1 c hc)
noncomputable def laB:List S:=(df n_law).body
noncomputable def laN:List Nm:=["script", "numbers", "parts", "leads", "due", "ups", "symbols", "page", "kinds", "rows", "nanny", "told", "ways", "bars", "ways_named", "bars_named"].map fun s=>nm (PySem.Str.ofString s)
noncomputable def laS (vs:List PV):Sg:=zipArgs laN vs
noncomputable def cV (o:Option PV):Option EV:=o.map .v
noncomputable def cCall (f:List PV → Option PV) (l:List (Option EV)):Option EV:=(eachV l).bind fun l=>(f l).map .v
section
variable (cc m:Nm → List PV → Option PV)
noncomputable abbrev laG:Gl:=GD cc m (df n_law)
noncomputable abbrev laR (i:Nat) (x:String) (vs:List PV) (o:Option EV):Rs:=asgR (laG cc m) (nm (PySem.Str.ofString x)) (valS (stm laB i)) (laS vs) o
theorem la_0 (a:List PV):ex (laG cc m) (stm laB 0) (laS [.list a])=laR cc m 0 "numbers" [.list a] (cV (cc n_numbers [.list a])):=by kernel_rfl
theorem la_0b (a:PV) (l:List PV):laR cc m 0 "numbers" [a] (some (.v (.list l)))=some (.next,laS [a,.list l]):=by kernel_rfl
theorem la_1 (a:PV) (X:Nat → Int):ex (laG cc m) (stm laB 1) (laS [a,.list (seven fun i=>.int (X i))])=some (.next,laS [a,.list (seven fun i=>.int (X i)),.list (seven fun i=>.int ((X i).fdiv 36))]):=by kernel_rfl
theorem la_2 (a p:PV) (X:Nat → Int):ex (laG cc m) (stm laB 2) (laS [a,.list (seven fun i=>.int (X i)),p])=laR cc m 2 "leads" [a,.list (seven fun i=>.int (X i)),p]
  (binR .Add (some (.v (.list [.str []]))) ((compLoop (lcF (laG cc m) (kid 1 (valS (stm laB 2))) (laS [a,.list (seven fun i=>.int (X i)),p])) [.int (X 1),.int (X 2),.int (X 3),.int (X 4),.int (X 5),.int (X 6)]).bind fun l=>mkV (.list l))):=by kernel_rfl
theorem la_2e (a n p:PV) (x:Int):lcF (laG cc m) (kid 1 (valS (stm laB 2))) (laS [a,n,p]) (.int x)=cR (cc n_lead [.int x]):=by kernel_rfl
theorem la_2a (a n p:PV) (l:List PV):laR cc m 2 "leads" [a,n,p] (some (.v (.list l)))=some (.next,laS [a,n,p,.list l]):=by kernel_rfl
theorem la_3 (a n p:PV) (l:List PV):ex (laG cc m) (stm laB 3) (laS [a,n,p,.list l])=laR cc m 3 "due" [a,n,p,.list l] (cV (cc n_farther [.list l])):=by kernel_rfl
theorem la_3a (a n p l:PV) (r:List PV):laR cc m 3 "due" [a,n,p,l] (some (.v (.list r)))=some (.next,laS [a,n,p,l,.list r]):=by kernel_rfl
theorem la_4 (a n p l:PV) (d:List PV):ex (laG cc m) (stm laB 4) (laS [a,n,p,l,.list d])=laR cc m 4 "ups" [a,n,p,l,.list d] (cV (cc n_ups [.list d])):=by kernel_rfl
theorem la_4a (a n p l d:PV) (r:List PV):laR cc m 4 "ups" [a,n,p,l,d] (some (.v (.list r)))=some (.next,laS [a,n,p,l,d,.list r]):=by kernel_rfl
theorem la_5 (a n p l d u:PV):ex (laG cc m) (stm laB 5) (laS [a,n,p,l,d,u])=asgP (laG cc m) (stm laB 5) (laS [a,n,p,l,d,u]) (cV (cc n_page [p,l,u])):=by kernel_rfl
theorem la_5a (a n p l d u x y z:PV):asgP (laG cc m) (stm laB 5) (laS [a,n,p,l,d,u]) (some (.v (.tuple [x,y,z])))=some (.next,laS [a,n,p,l,d,u,x,y,z]):=by kernel_rfl
theorem la_6 (a n p l d u x y z:PV):ex (laG cc m) (stm laB 6) (laS [a,n,p,l,d,u,x,y,z])=laR cc m 6 "rows" [a,n,p,l,d,u,x,y,z] (cCall (cc n_read) [cCall (cc n_octets) [some (.v x)]]):=by kernel_rfl
theorem la_6a (a n p l d u x y z:PV) (r:List PV):laR cc m 6 "rows" [a,n,p,l,d,u,x,y,z] (some (.v (.list r)))=some (.next,laS [a,n,p,l,d,u,x,y,z,.list r]):=by kernel_rfl
theorem la_7 (a n p l d u x y z r:PV):ex (laG cc m) (stm laB 7) (laS [a,n,p,l,d,u,x,y,z,r])=ifC (neR (some (.v r)) (some (.v y))) (exs (laG cc m) (bodyS (stm laB 7)) (laS [a,n,p,l,d,u,x,y,z,r])) (some (.next,laS [a,n,p,l,d,u,x,y,z,r])):=by kernel_rfl
theorem la_8 (a n p l d u x y z:PV) (R:List PV):ex (laG cc m) (stm laB 8) (laS [a,n,p,l,d,u,x,y,z,.list R])=laR cc m 8 "nanny" [a,n,p,l,d,u,x,y,z,.list R] ((compLoop (lcF (laG cc m) (valS (stm laB 8)) (laS [a,n,p,l,d,u,x,y,z,.list R])) R).bind fun l=>mkV (.list l)):=by kernel_rfl
theorem la_8e (a n p l d u x y z r t o:PV):lcF (laG cc m) (valS (stm laB 8)) (laS [a,n,p,l,d,u,x,y,z,r]) (.tuple [t,o])=cR (cc n_Whitespace [t]):=by kernel_rfl
theorem la_8a (a n p l d u x y z r:PV) (w:List PV):laR cc m 8 "nanny" [a,n,p,l,d,u,x,y,z,r] (some (.v (.list w)))=some (.next,laS [a,n,p,l,d,u,x,y,z,r,.list w]):=by kernel_rfl
noncomputable abbrev nanV (tx:Nat → List Nat) (r:Nat → Nat):List PV:=seven fun i=>.inst (wI (tx i) (r i))
theorem la_9 (a n p l d u x y z r:PV) (tx:Nat → List Nat) (c:Nat → Nat):ex (laG cc m) (stm laB 9) (laS [a,n,p,l,d,u,x,y,z,r,.list (nanV tx c)])=laR cc m 9 "told" [a,n,p,l,d,u,x,y,z,r,.list (nanV tx c)]
  ((compLoop (lcF (laG cc m) (valS (stm laB 9)) (laS [a,n,p,l,d,u,x,y,z,r,.list (nanV tx c)])) [.int 0,.int 1,.int 2,.int 3,.int 4,.int 5,.int 6]).bind fun l=>mkV (.list l)):=by kernel_rfl
theorem la_9i (a n p l d u x y z r:PV) (tx:Nat → List Nat) (c:Nat → Nat):(List.range 7).map (fun (i:Nat)=>lcF (laG cc m) (valS (stm laB 9)) (laS [a,n,p,l,d,u,x,y,z,r,.list (nanV tx c)]) (.int i))=mapT (List.range 7) fun (i:Nat)=>
  oneR ((compLoop (lcF (inC (laG cc m) (valS (stm laB 9))) (kid 0 (valS (stm laB 9))) (inS (valS (stm laB 9)) (laS [a,n,p,l,d,u,x,y,z,r,.list (nanV tx c)]) (nm "i") (.int i))) ((List.range i).map fun (j:Nat)=>.int j)).bind fun l=>mkV (.list l)):=by kernel_rfl
theorem la_9j (a n p l d u x y z r:PV) (tx:Nat → List Nat) (c:Nat → Nat):pairs.map (fun q=>lcF (inC (laG cc m) (valS (stm laB 9))) (kid 0 (valS (stm laB 9))) (inS (valS (stm laB 9)) (laS [a,n,p,l,d,u,x,y,z,r,.list (nanV tx c)]) (nm "i") (.int q.1)) (.int q.2))=mapT pairs fun q=>
  cR (m (nm "less") [.inst (wI (tx q.2) (c q.2)),.inst (wI (tx q.1) (c q.1))]):=by kernel_rfl
theorem la_9a (a n p l d u x y z r w:PV) (t:List PV):laR cc m 9 "told" [a,n,p,l,d,u,x,y,z,r,w] (some (.v (.list t)))=some (.next,laS [a,n,p,l,d,u,x,y,z,r,w,.list t]):=by kernel_rfl
theorem la_10 (a n p l d u x y z r w t:PV):ex (laG cc m) (stm laB 10) (laS [a,n,p,l,d,u,x,y,z,r,w,t])=ifC (neR (repR t) (repR d)) (exs (laG cc m) (bodyS (stm laB 10)) (laS [a,n,p,l,d,u,x,y,z,r,w,t])) (some (.next,laS [a,n,p,l,d,u,x,y,z,r,w,t])):=by kernel_rfl
theorem la_11 (a n p l d u x y z r w t:PV):ex (laG cc m) (stm laB 11) (laS [a,n,p,l,d,u,x,y,z,r,w,t])=asgP (laG cc m) (stm laB 11) (laS [a,n,p,l,d,u,x,y,z,r,w,t]) (cCall (cc n_sides) [some (.v r),cCall (cc n_ups) [some (.v t)]]):=by kernel_rfl
theorem la_11a (a n p l d u x y z r w t g h:PV):asgP (laG cc m) (stm laB 11) (laS [a,n,p,l,d,u,x,y,z,r,w,t]) (some (.v (.list [g,h])))=some (.next,laS [a,n,p,l,d,u,x,y,z,r,w,t,g,h]):=by kernel_rfl
theorem la_12 (a n p l d u x y z r w t h:PV) (g:List PV):ex (laG cc m) (stm laB 12) (laS [a,n,p,l,d,u,x,y,z,r,w,t,.list g,h])=laR cc m 12 "ways_named" [a,n,p,l,d,u,x,y,z,r,w,t,.list g,h]
  (sortR ((compLoop (lcF (laG cc m) (kid 0 (valS (stm laB 12))) (laS [a,n,p,l,d,u,x,y,z,r,w,t,.list g,h])) g).bind fun l=>mkV (.list l))):=by kernel_rfl
theorem la_12e (a n p l d u x y z r w t g h e:PV):lcF (laG cc m) (kid 0 (valS (stm laB 12))) (laS [a,n,p,l,d,u,x,y,z,r,w,t,g,h]) e=cR (cc n_pf [e]):=by kernel_rfl
theorem la_12a (a n p l d u x y z r w t g h:PV) (q:List PV):laR cc m 12 "ways_named" [a,n,p,l,d,u,x,y,z,r,w,t,g,h] (some (.v (.list q)))=some (.next,laS [a,n,p,l,d,u,x,y,z,r,w,t,g,h,.list q]):=by kernel_rfl
theorem la_13 (a n p l d u x y z r w t g q:PV) (h:List PV):ex (laG cc m) (stm laB 13) (laS [a,n,p,l,d,u,x,y,z,r,w,t,g,.list h,q])=laR cc m 13 "bars_named" [a,n,p,l,d,u,x,y,z,r,w,t,g,.list h,q]
  (sortR ((compLoop (lcF (laG cc m) (kid 0 (valS (stm laB 13))) (laS [a,n,p,l,d,u,x,y,z,r,w,t,g,.list h,q])) h).bind fun l=>mkV (.list l))):=by kernel_rfl
theorem la_13e (a n p l d u x y z r w t g h q e:PV):lcF (laG cc m) (kid 0 (valS (stm laB 13))) (laS [a,n,p,l,d,u,x,y,z,r,w,t,g,h,q]) e=cR (cc n_pf [e]):=by kernel_rfl
theorem la_13a (a n p l d u x y z r w t g h q:PV) (s:List PV):laR cc m 13 "bars_named" [a,n,p,l,d,u,x,y,z,r,w,t,g,h,q] (some (.v (.list s)))=some (.next,laS [a,n,p,l,d,u,x,y,z,r,w,t,g,h,q,.list s]):=by kernel_rfl
theorem la_14 (a n p l d u x y z r w t g h q s:PV):ex (laG cc m) (stm laB 14) (laS [a,n,p,l,d,u,x,y,z,r,w,t,g,h,q,s])=ifC (neR (some (.v q)) (cCall (cc n_least) [cCall (cc n_truth) [some (.v y),some (.v z),some (.v u)],some (.v z)]))
  (exs (laG cc m) (bodyS (stm laB 14)) (laS [a,n,p,l,d,u,x,y,z,r,w,t,g,h,q,s])) (some (.next,laS [a,n,p,l,d,u,x,y,z,r,w,t,g,h,q,s])):=by kernel_rfl
noncomputable def eqR' (a b:Option EV):Option EV:=chainE [.Eq] a [b]
theorem la_15 (a n p l d u x y r w t g h q s:PV) (z:Nat → Int):ex (laG cc m) (stm laB 15) (laS [a,n,p,l,d,u,x,y,.list (upsV z),r,w,t,g,h,q,s]) =
  retR (eqR' (some (.v s)) (cCall (cc n_bars) [some (.v q),(compLoop (lcF (laG cc m) (kid 1 (kid 1 (valS (stm laB 15)))) (laS [a,n,p,l,d,u,x,y,.list (upsV z),r,w,t,g,h,q,s])) (upsV z)).bind fun l=>mkV (.list l)])) (laS [a,n,p,l,d,u,x,y,.list (upsV z),r,w,t,g,h,q,s]):=by kernel_rfl
theorem la_15e (a n p l d u x y z r w t g h q s:PV) (e:Int):lcF (laG cc m) (kid 1 (kid 1 (valS (stm laB 15)))) (laS [a,n,p,l,d,u,x,y,z,r,w,t,g,h,q,s]) (.int e)=keepR (decide (e ≥ 0)) (.int e):=by kernel_rfl
end
open List (Perm)
theorem seven_of {l:List Int} (h:l.length=7):l.map PV.int=seven fun i=>.int (l.getD i 0):=by
 match l,h with
 | [a,b,c,d,e,f,g],_=>rfl
theorem up_tab:((upto 7 allB).flatten.all fun bs=>!(bs.headD false) || (decide (0 ≤ upB bs) && decide (upB bs < bs.length)))=true:=by decide +kernel
theorem up_ok {bs:List Bool} (h:bs.length < 7) (h0:bs.headD false=true):0 ≤ upB bs ∧ upB bs < bs.length:=by
 have hm:bs ∈ (upto 7 allB).flatten:=by
  rw [List.mem_flatten]
  refine ⟨allB bs.length,?_,mem_allB bs⟩
  unfold upto
  exact List.mem_map.mpr ⟨_,List.mem_range.mpr h,rfl⟩
 have:=List.all_eq_true.mp up_tab bs hm
 rw [h0] at this
 simpa using this
theorem top_tab:(List.range 36).all (fun r=>fB (cI 0) (cI (r + 1)))=true:=by decide +kernel
section
variable (X:Nat → Int)
noncomputable def pgP (i:Nat):Int:=(X i).fdiv 36
noncomputable def pgR:Nat → Nat
 | 0=>0
 | i + 1=>r36 (X (i + 1)) + 1
noncomputable def pgB (i j:Nat):Bool:=fB (cI (pgR X j)) (cI (pgR X i))
noncomputable def pgU (i:Nat):Int:=upsI (pgB X) i
noncomputable def pgL:List Nat:=[0,(pgU X 1).toNat,(pgU X 2).toNat,(pgU X 3).toNat,(pgU X 4).toNat,(pgU X 5).toNat,(pgU X 6).toNat]
noncomputable def pgV:Nat → Nat:=vOf (pgL X)
noncomputable def pgF:Nat → Bool:=lfV (pgV X)
noncomputable def pgK (i:Nat):Int:=kd (pgP X) (pgU X) i
noncomputable def pgS (i:Nat):Int:=(sumZ 0 (seven (pgP X)) + i).fmod 26
noncomputable def pgN (i:Nat):Nat:=(pgS X i).toNat
noncomputable def pgT (i:Nat):List Nat:=bif pgF X i then ld (pgR X i) ++ [97 + pgN X i] else ld (pgR X i)
noncomputable def pgO (i:Nat):Int:=bif pgF X i then 0 else 7 + (pgP X i).fmod 48
theorem pgR_lt (i:Nat):pgR X i < 37:=by
 cases i with
 | zero=>show 0 < 37; decide
 | succ i=>have:=r36_lt (X (i + 1)); show r36 (X (i + 1)) + 1 < 37; exact Nat.lt_succ_of_le this
theorem pgU_ok {i:Nat} (h1:1 ≤ i) (h6:i ≤ 6):0 ≤ pgU X i ∧ pgU X i < i:=by
 have hl:(upto i fun j=>pgB X i j).length=i:=by simp [upto]
 have:=up_ok (bs:=upto i fun j=>pgB X i j) (by omega) ?_
 ·rw [hl] at this; exact this
 ·obtain ⟨i,rfl⟩:∃ k,i=k + 1:=⟨i - 1,by exact (Nat.sub_add_cancel h1).symm⟩
  have e:upto (i + 1) (fun j=>pgB X (i + 1) j)=pgB X (i + 1) 0 :: (List.range i).map fun j=>pgB X (i + 1) (j + 1):=by
   unfold upto
   rw [List.range_succ_eq_map,List.map_cons,List.map_map]
   rfl
  rw [e]
  exact List.all_eq_true.mp top_tab (r36 (X (i + 1))) (List.mem_range.mpr (r36_lt _))
theorem pgV_eq {i:Nat} (h1:1 ≤ i) (h6:i ≤ 6):pgU X i=(pgV X i:Int) ∧ pgV X i < i:=by
 have h:=pgU_ok X h1 h6
 have e:∀ i ∈ is6,pgV X i=(pgU X i).toNat:=by
  unfold is6
  simp only [List.forall_mem_cons]
  exact ⟨rfl,rfl,rfl,rfl,rfl,rfl,List.forall_mem_nil _⟩
 rw [e i (mem_is6 h1 h6)]
 exact ⟨(Int.toNat_of_nonneg h.1).symm,(Int.toNat_lt h.1).mpr h.2⟩
theorem pgU_0:pgU X 0=-1:=rfl
theorem is6_mem {j:Nat} (h:j ∈ is6):1 ≤ j ∧ j ≤ 6:=by
 unfold is6 at h
 simp only [List.mem_cons,List.not_mem_nil,or_false] at h
 omega
theorem inU_eq {i:Nat} (hi:i < 7):inU (pgU X) i=!pgF X i:=by
 have e:inU (pgU X) i=((pgU X 0 == (i:Int)) || is6.any fun j=>pgU X j == (i:Int)):=rfl
 have e2:(is6.any fun j=>pgU X j == (i:Int))=is6.any fun j=>pgV X j == i:=by
  rw [Bool.eq_iff_iff]
  simp only [List.any_eq_true,beq_iff_eq]
  constructor
  ·rintro ⟨j,hj,e⟩
   have:=(pgV_eq X (is6_mem hj).1 (is6_mem hj).2).1
   exact ⟨j,hj,by omega⟩
  ·rintro ⟨j,hj,e⟩
   have:=(pgV_eq X (is6_mem hj).1 (is6_mem hj).2).1
   exact ⟨j,hj,by omega⟩
 rw [e,e2,pgU_0,show ((-1:Int) == (i:Int))=false from beq_eq_false_iff_ne.mpr (by omega)]
 unfold pgF lfV
 simp
theorem pgK_eq {i:Nat} (hi:i < 7):pgK X i=bif pgF X i then (pgN X i:Int) else -1:=by
 unfold pgK kd
 rw [inU_eq X hi]
 have:=fmod_lt (sumZ 0 (seven (pgP X)) + i) (k:=26) (by decide)
 cases pgF X i
 ·rfl
 ·show (sumZ 0 (seven (pgP X)) + i).fmod 26=((pgS X i).toNat:Int)
  unfold pgS
  exact (Int.toNat_of_nonneg this.1).symm
theorem pgN_lt (i:Nat):pgN X i < 26:=by
 have:=fmod_lt (sumZ 0 (seven (pgP X)) + i) (k:=26) (by decide)
 unfold pgN pgS; omega
theorem top_inner:pgF X 0=false:=by
 have:=(pgV_eq X (i:=1) (by decide) (by decide)).2
 have e:pgV X 1=0:=by omega
 unfold pgF lfV is6
 rw [List.any_cons,e]
 rfl
theorem low_leaf:pgF X 6=true:=by
 unfold pgF lfV
 rw [Bool.not_eq_true',List.any_eq_false]
 intro j hj e
 have:=pgV_eq X (is6_mem hj).1 (is6_mem hj).2
 have:=(is6_mem hj).2
 rw [beq_iff_eq] at e
 omega
theorem rowOk:RowOk (pgT X) (pgO X) (pgF X) (pgN X) where
 leaf i hi h:=by
  refine ⟨by unfold pgO; rw [h]; rfl,pgN_lt X i,ld (pgR X i),?_,by unfold pgT; rw [h]; rfl⟩
  have:=ld_len' (pgR_lt X i); exact Nat.le_trans this (by decide)
 node i hi h:=by
  have:=fmod_lt (pgP X i) (k:=48) (by decide)
  unfold pgO; rw [h]
  show 0 < 7 + (pgP X i).fmod 48
  omega
theorem kindsOk:KindsOk (pgK X) (pgF X) (pgN X) where
 leaf i hi h:=by rw [pgK_eq X hi,h]; rfl
 node i hi h:=by rw [pgK_eq X hi,h]; show (-1:Int) < 0; decide
 inj i j hi hj h1 h2 e:=by
  have a:=fmod_lt (sumZ 0 (seven (pgP X)) + i) (k:=26) (by decide)
  have b:=fmod_lt (sumZ 0 (seven (pgP X)) + j) (k:=26) (by decide)
  unfold pgN pgS at e
  have e:=(Int.toNat_of_nonneg a.1).symm.trans ((congrArg Int.ofNat e).trans (Int.toNat_of_nonneg b.1))
  rw [Int.fmod_eq_emod_of_nonneg _ (by decide),Int.fmod_eq_emod_of_nonneg _ (by decide)] at e
  clear a b h1 h2
  omega
 top:=top_inner X
 low:=low_leaf X
theorem rows_eq:(is7.map fun i=>rwP (pgR X i) (pgP X i) (pgK X i))=rowV (pgT X) (pgO X):=by
 have h:∀ i,i < 7 → rwP (pgR X i) (pgP X i) (pgK X i)=.tuple [.str (pgT X i),.int (pgO X i)]:=by
  intro i hi
  unfold rwP pgT pgO
  rw [pgK_eq X hi]
  cases pgF X i
  ·rfl
  ·simp only [cond_true]
   rw [decide_eq_false (show ¬ (pgN X i:Int) < 0 by exact Int.not_lt.mpr (Int.natCast_nonneg _)),Int.toNat_natCast]
   rfl
 unfold is7 rowV seven
 simp only [List.map_cons,List.map_nil,h 0 (by decide),h 1 (by decide),h 2 (by decide),h 3 (by decide),h 4 (by decide),h 5 (by decide),h 6 (by decide)]
theorem mem_allV:∀ (n:Nat) (f:Nat → Nat),(∀ i,i < n → f i < i + 1) → (0 :: (List.range n).map f) ∈ allV n
 | 0,_,_=>.head _
 | n + 1,f,h=>by
  refine List.mem_flatMap.mpr ⟨_,mem_allV n f fun i hi=>h i (by exact Nat.le_succ_of_le hi),?_⟩
  refine List.mem_map.mpr ⟨f n,List.mem_range.mpr (h n (by exact Nat.le_refl _)),?_⟩
  rw [List.range_succ,List.map_append]
  rfl
theorem pgL_mem:pgL X ∈ allV 6:=by
 have:=mem_allV 6 (fun i=>(pgU X (i + 1)).toNat) fun i hi=>by
  have:=pgU_ok X (i:=i + 1) (by exact Nat.zero_lt_succ _) (by exact hi)
  omega
 exact this
theorem mem_allA (v:Nat → Nat) (a:Nat → Bool) (h:∀ i,lfV v i=true → a i=false):∀ n,(List.range n).map a ∈ allA v n
 | 0=>.head _
 | n + 1=>by
  refine List.mem_flatMap.mpr ⟨_,mem_allA v a h n,?_⟩
  rw [List.range_succ,List.map_append]
  cases hl:lfV v n
  ·cases ha:a n <;> simp [ha]
  ·simp [h n hl]
theorem odd_aOf:aOf ((List.range 7).map (odd0 (pgO X)))=odd0 (pgO X):=by
 funext i
 unfold aOf
 by_cases hi:i < 7
 ·rw [List.getD_eq_getElem?_getD,List.getElem?_map,List.getElem?_range hi]; rfl
 ·rw [List.getD_eq_getElem?_getD,List.getElem?_eq_none (by simp; exact Nat.not_lt.mp hi)]
  have:pgF X i=true:=by
   unfold pgF lfV
   rw [Bool.not_eq_true',List.any_eq_false]
   intro j hj e
   have:=pgV_eq X (is6_mem hj).1 (is6_mem hj).2
   have:=(is6_mem hj).2
   rw [beq_iff_eq] at e
   omega
  unfold odd0 pgO
  rw [this]; rfl
end
open List (Perm)
theorem chk_all {l:List Nat} (h:l ∈ allV 6) {b:List Bool} (hb:b ∈ allA (vOf l) 7):chk1 (vOf l) (aOf b)=true:=by
 have all:∀ k,k < 24 → chkR k=true:=by
  intro k hk
  match k,hk with
  | 0,_=>exact chk_0
  | 1,_=>exact chk_1
  | 2,_=>exact chk_2
  | 3,_=>exact chk_3
  | 4,_=>exact chk_4
  | 5,_=>exact chk_5
  | 6,_=>exact chk_6
  | 7,_=>exact chk_7
  | 8,_=>exact chk_8
  | 9,_=>exact chk_9
  | 10,_=>exact chk_10
  | 11,_=>exact chk_11
  | 12,_=>exact chk_12
  | 13,_=>exact chk_13
  | 14,_=>exact chk_14
  | 15,_=>exact chk_15
  | 16,_=>exact chk_16
  | 17,_=>exact chk_17
  | 18,_=>exact chk_18
  | 19,_=>exact chk_19
  | 20,_=>exact chk_20
  | 21,_=>exact chk_21
  | 22,_=>exact chk_22
  | 23,_=>exact chk_23
  | k + 24,h=>exact absurd h (by omega)
 have len:(allV 6).length=720:=by kernel_rfl
 obtain ⟨i,hi,e⟩:=List.getElem_of_mem h
 rw [len] at hi
 have h2:=all (i / 30) (by exact Nat.div_lt_of_lt_mul hi)
 have hm:l ∈ ((allV 6).drop (30 * (i / 30))).take 30:=by
  rw [List.mem_take_iff_getElem]
  refine ⟨i % 30,by rw [List.length_drop,len]; omega,?_⟩
  rw [List.getElem_drop,← e]
  congr 1; omega
 exact List.all_eq_true.mp (List.all_eq_true.mp h2 l hm) b hb
section
variable (X:Nat → Int)
noncomputable def pgA:List Nat:=waysA (pgV X) (odd0 (pgO X))
noncomputable def pgBs:List Nat:=waysA (pgV X) fun i=>!odd0 (pgO X) i
noncomputable def pgLs:List Nat:=ltN (pgF X) (pgN X)
theorem pgLs_len:(pgLs X).length=(is7.filter (pgF X)).length:=by unfold pgLs ltN; rw [List.length_map]
structure Chk:Prop where
 ways:Perm (pgA X) (leastP (pgLs X).length (tbP (truthP' (odd0 (pgO X)) (pgF X) (pgLs X).length (pgV X))))
 bars:Perm (pgBs X) (barsP (pgLs X).length (pgA X))
 wlt:∀ x ∈ pgA X,0 < x ∧ x < 2 ^ (pgLs X).length
 blt:∀ x ∈ pgBs X,0 < x ∧ x < 2 ^ (pgLs X).length
 wl:(pgA X).length < 64
 bl:(pgBs X).length < 64
theorem chk_pg:Chk X:=by
 have hb:(List.range 7).map (odd0 (pgO X)) ∈ allA (vOf (pgL X)) 7:=mem_allA _ _ (fun i hi=>by
  have:pgF X i=true:=hi
  unfold odd0 pgO; rw [this]; rfl) 7
 have h:=chk_all (pgL_mem X) hb
 rw [odd_aOf] at h
 have h:chk1 (pgV X) (odd0 (pgO X))=true:=h
 unfold chk1 at h
 simp only [Bool.and_eq_true,List.all_eq_true,decide_eq_true_eq] at h
 obtain ⟨⟨⟨⟨⟨h1,h2⟩,h3⟩,h4⟩,h5⟩,h6⟩:=h
 have e1:=eqN_iff h1
 have e2:=eqN_iff h2
 rw [show (is7.filter (lfV (pgV X))).length=(pgLs X).length from (pgLs_len X).symm] at e1 e2 h3 h4
 exact ⟨(sortN_perm _).symm.trans (e1 ▸ sortN_perm _),(sortN_perm _).symm.trans (e2 ▸ sortN_perm _),h3,h4,h5,h6⟩
theorem ls_26:∀ k ∈ pgLs X,k < 26:=by
 intro k hk
 unfold pgLs ltN at hk
 obtain ⟨i,_,rfl⟩:=List.mem_map.mp hk
 exact pgN_lt X i
theorem ls_len:(pgLs X).length ≤ 6:=ltN_len (kindsOk X)
theorem ls_nodup:(pgLs X).Nodup:=by
 unfold pgLs ltN List.Nodup
 rw [List.pairwise_map]
 have h:(is7.filter (pgF X)).Pairwise (· ≠ ·):=List.Pairwise.sublist List.filter_sublist (by decide)
 refine List.Pairwise.imp_of_mem ?_ h
 intro a b ha hb hab e
 obtain ⟨a1,a2⟩:=List.mem_filter.mp ha
 obtain ⟨b1,b2⟩:=List.mem_filter.mp hb
 exact hab ((kindsOk X).inj a b (is7_lt a1) (is7_lt b1) a2 b2 e)
theorem two_le:2 ^ (pgLs X).length ≤ 64:=(Nat.pow_le_pow_right (by decide) (ls_len X):2 ^ (pgLs X).length ≤ 2 ^ 6)
theorem sets_phi (a:Nat → Bool):sidesP a (pgV X) (sInit a (pgF X) (pgN X)) 0=(waysA (pgV X) a).map (phi (pgLs X)):=by
 refine sides_map (phi_or _) a (pgV X) (fun i h1 h6=>(pgV_eq X h1 h6).2) fun j hj=>?_
 show sInit a (pgF X) (pgN X) j=(sInit a (pgF X) (posN (pgF X)) j).map (phi (pgLs X))
 unfold sInit
 cases hl:pgF X j
 ·cases a j <;> rfl
 ·have hm:j ∈ is7.filter (pgF X):=List.mem_filter.mpr ⟨mem_is7 hj,hl⟩
  have hlt:=List.idxOf_lt_length_of_mem hm
  have hL:=ls_len X
  rw [pgLs_len] at hL
  have hp:posN (pgF X) j < 6:=by unfold posN; exact Nat.lt_of_lt_of_le hlt hL
  simp only [cond_true,List.map_cons,List.map_nil]
  rw [phi_pow _ hp]
  congr 2
  unfold pgLs ltN posN
  rw [List.getD_eq_getElem?_getD,List.getElem?_map,List.getElem?_eq_getElem hlt,List.getElem_idxOf hlt]
  rfl
noncomputable def wd (F:Nat):List Nat:=joinL ((bitsF F).map nameS)
theorem wd_phi {x:Nat} (hx:x < 2 ^ (pgLs X).length):wd (phi (pgLs X) x)=wordsM (fun b=>(pgLs X).getD b 0) x:=by
 unfold wd wordsM
 rw [bits_phi (ls_26 X) (ls_nodup X) hx]
theorem wd_map {l:List Nat} (h:∀ x ∈ l,x < 2 ^ (pgLs X).length):(l.map (phi (pgLs X))).map wd=l.map (wordsM fun b=>(pgLs X).getD b 0):=by
 rw [List.map_map]
 exact List.map_congr_left fun x hx=>wd_phi X (h x hx)
theorem joinL_low:∀ (ws:List (List Nat)),(∀ w ∈ ws,∀ c ∈ w,c < 1114112) → ∀ c ∈ joinL ws,c < 1114112
 | [],_,c,h=>by cases h
 | [w],hw,c,h=>hw w (.head _) c h
 | w :: x :: r,hw,c,h=>by
  have h:c ∈ w ++ 44 :: 32 :: joinL (x :: r):=h
  rcases List.mem_append.mp h with h | h
  ·exact hw w (.head _) c h
  ·rcases List.mem_cons.mp h with h | h
   ·omega
   ·rcases List.mem_cons.mp h with h | h
    ·omega
    ·exact joinL_low (x :: r) (fun z hz=>hw z (.tail _ hz)) c h
theorem wordsM_ok {lt:Nat → Nat} (h:∀ b,lt b < 26) (x:Nat):okN 7 (.str (wordsM lt x))=true:=by
 show ((wordsM lt x).all fun c=>decide (c < 1114112))=true
 rw [List.all_eq_true]
 intro c hc
 refine decide_eq_true (joinL_low _ (fun w hw c hc=>?_) c hc)
 obtain ⟨k,hk,rfl⟩:=List.mem_map.mp hw
 obtain ⟨b,_,rfl⟩:=List.mem_map.mp (sortN_mem hk)
 have h1:okN 8 (.str (nameS (lt b)))=true:=List.all_eq_true.mp name_okP (lt b) (List.mem_range.mpr (h b))
 exact of_decide_eq_true (List.all_eq_true.mp h1 c hc)
theorem sortV_ok {lt:Nat → Nat} (h:∀ b,lt b < 26) (l:List Nat):okN 8 (.list (sortV (l.map (wordsM lt))))=true:=by
 show (sortV (l.map (wordsM lt))).all (okN 7)=true
 rw [List.all_eq_true]
 intro d hd
 unfold sortV at hd
 obtain ⟨s,hs,rfl⟩:=List.mem_map.mp hd
 obtain ⟨w,hw,rfl⟩:=List.mem_map.mp ((sortS_pm _).mem_iff.mp hs)
 obtain ⟨x,_,rfl⟩:=List.mem_map.mp hw
 exact wordsM_ok h x
theorem lt_26 (b:Nat):(pgLs X).getD b 0 < 26:=by
 rw [List.getD_eq_getElem?_getD]
 cases h:(pgLs X)[b]? with
 | none=>decide
 | some x=>exact ls_26 X x (List.mem_of_getElem? h)
theorem named {n:Nat} {g:PV → Option (List PV)} (hg:∀ e,g e=cR ((O (n + 1)).call n_pf [e])) {l:List Nat} (h:∀ x ∈ l,0 < x ∧ x < 2 ^ (pgLs X).length) (hl:l.length < 64) :
  sortR ((compLoop g (nPV (l.map (phi (pgLs X))))).bind fun l=>mkV (.list l))=some (.v (.list (sortV (l.map (wordsM fun b=>(pgLs X).getD b 0))))):=by
 have e:=compLoop_map (g:=g) (f:=wd) (l:=l.map (phi (pgLs X))) fun F hF=>by
  obtain ⟨x,hx,rfl⟩:=List.mem_map.mp hF
  obtain ⟨h0,h1⟩:=h x hx
  rw [hg,pf_eq n _ (phi_lt (ls_26 X) h1) (phi_ne (ls:=pgLs X) (Nat.lt_of_lt_of_le h1 (two_le X)) h0)]
  rfl
 rw [e,wd_map X fun x hx=>(h x hx).2,Option.bind_some,szb_list _ (by rw [List.length_map,List.length_map]; exact Nat.le_of_lt (Nat.lt_of_lt_of_le hl (by decide))),sortR_eq _ (by rw [List.length_map]; exact hl)]
end
open List (Perm)
theorem cCall1 (f:List PV → Option PV) (a:PV):cCall f [some (.v a)]=(f [a]).map .v:=rfl
theorem cCall2 (f:List PV → Option PV) (a b:PV):cCall f [some (.v a),some (.v b)]=(f [a,b]).map .v:=rfl
theorem cCall3 (f:List PV → Option PV) (a b c:PV):cCall f [some (.v a),some (.v b),some (.v c)]=(f [a,b,c]).map .v:=rfl
section
variable (n:Nat) (X:Nat → Int)
noncomputable abbrev Cn:Nm → List PV → Option PV:=(O (n + 2)).call
noncomputable abbrev Mn:Nm → List PV → Option PV:=(O (n + 2)).meth
noncomputable def lvV:PV:=.list (seven fun i=>.str (ld (pgR X i)))
noncomputable def parV:PV:=.list (seven fun i=>.int (pgP X i))
noncomputable def numV:PV:=.list (seven fun i=>.int (X i))
noncomputable def dueB:PV:=dueV (pgB X)
noncomputable def upV:PV:=.list (upsV (pgU X))
noncomputable def kiV:PV:=.list (upsV (pgK X))
noncomputable def roV:PV:=.list (rowV (pgT X) (pgO X))
noncomputable def syV:PV:=.list ((sysP (pgR X) (pgP X) (pgK X) is7 ++ [0]).map .int)
noncomputable def naV:PV:=.list (nanV (pgT X) (pgR X))
noncomputable def waV:PV:=.list (nPV ((pgA X).map (phi (pgLs X))))
noncomputable def brV:PV:=.list (nPV ((pgBs X).map (phi (pgLs X))))
noncomputable abbrev ltX:Nat → Nat:=fun b=>(pgLs X).getD b 0
noncomputable def wnV:PV:=.list (sortV ((pgA X).map (wordsM (ltX X))))
noncomputable def bnV:PV:=.list (sortV ((pgBs X).map (wordsM (ltX X))))
theorem law_2 (a:PV):ex (laG (Cn n) (Mn n)) (stm laB 2) (laS [a,numV X,parV X])=some (.next,laS [a,numV X,parV X,lvV X]):=by
 unfold numV parV
 rw [la_2]
 have e:compLoop (lcF (laG (Cn n) (Mn n)) (kid 1 (valS (stm laB 2))) (laS [a,.list (seven fun i=>.int (X i)),.list (seven fun i=>.int (pgP X i))])) [.int (X 1),.int (X 2),.int (X 3),.int (X 4),.int (X 5),.int (X 6)] =
   some [.str (ld (pgR X 1)),.str (ld (pgR X 2)),.str (ld (pgR X 3)),.str (ld (pgR X 4)),.str (ld (pgR X 5)),.str (ld (pgR X 6))]:=by
  have h:∀ x:Int,lcF (laG (Cn n) (Mn n)) (kid 1 (valS (stm laB 2))) (laS [a,.list (seven fun i=>.int (X i)),.list (seven fun i=>.int (pgP X i))]) (.int x)=some [.str (leadS (r36 x))]:=fun x=>by
   rw [la_2e]
   show cR ((O (n + 1 + 1)).call n_lead [.int x])=_
   rw [lead_eq]; rfl
  simp only [compLoop,h,List.cons_append,List.nil_append]
  rfl
 rw [e]
 exact la_2a _ _ _ _ _ _
theorem ws_row (i:Nat) (hi:i < 7):(Cn n) n_Whitespace [.str (pgT X i)]=some (.inst (wI (pgT X i) (pgR X i))):=by
 show (O (n + 1 + 1)).call n_Whitespace [.str (pgT X i)]=_
 unfold pgT
 cases h:pgF X i
 ·have:=ws_eq (n + 1) (pgR_lt X i) [] (.inl rfl)
  rw [List.append_nil] at this
  exact this
 ·exact ws_eq (n + 1) (pgR_lt X i) [97 + pgN X i] (.inr ⟨_,pgN_lt X i,rfl⟩)
theorem law_8 (a n' p l d u x y z:PV):ex (laG (Cn n) (Mn n)) (stm laB 8) (laS [a,n',p,l,d,u,x,y,z,roV X])=some (.next,laS [a,n',p,l,d,u,x,y,z,roV X,naV X]):=by
 unfold roV
 rw [la_8]
 have e:compLoop (lcF (laG (Cn n) (Mn n)) (valS (stm laB 8)) (laS [a,n',p,l,d,u,x,y,z,.list (rowV (pgT X) (pgO X))])) (rowV (pgT X) (pgO X))=some (nanV (pgT X) (pgR X)):=by
  refine compLoop_seven fun i hi=>?_
  rw [la_8e,ws_row n X i hi]
  rfl
 rw [e]
 exact la_8a _ _ _ _ _ _ _ _ _ _ _ _ _
theorem law_9 (a n' p l d u x y z r:PV):ex (laG (Cn n) (Mn n)) (stm laB 9) (laS [a,n',p,l,d,u,x,y,z,r,naV X])=some (.next,laS [a,n',p,l,d,u,x,y,z,r,naV X,dueB X]):=by
 unfold naV
 rw [la_9]
 have e1:∀ i:Nat,i < 7 → lcF (laG (Cn n) (Mn n)) (valS (stm laB 9)) (laS [a,n',p,l,d,u,x,y,z,r,.list (nanV (pgT X) (pgR X))]) (.int i)=some [.list (upto i fun j=>.bool (pgB X i j))]:=by
  intro i hi
  rw [get_T (la_9i (Cn n) (Mn n) a n' p l d u x y z r (pgT X) (pgR X)) hi]
  have e:∀ js:List Nat,(∀ j ∈ js,j < i) → compLoop (lcF (inC (laG (Cn n) (Mn n)) (valS (stm laB 9))) (kid 0 (valS (stm laB 9))) (inS (valS (stm laB 9)) (laS [a,n',p,l,d,u,x,y,z,r,.list (nanV (pgT X) (pgR X))]) (nm "i") (.int i))) (js.map fun (j:Nat)=>.int j)=some (js.map fun j=>.bool (pgB X i j)):=by
   intro js
   induction js with
   | nil=>intro _; rfl
   | cons j js ih=>
    intro hj
    have:=get_M (la_9j (Cn n) (Mn n) a n' p l d u x y z r (pgT X) (pgR X)) (pair_mem (hj j (.head _)) hi)
    simp only at this
    rw [List.map_cons,compLoop,this]
    show (match cR ((O (n + 2)).meth (nm "less") [.inst (wI (pgT X j) (pgR X j)),.inst (wI (pgT X i) (pgR X i))]) with | none=>none | some a=>_)=_
    rw [less_eq n _ _ (pgR_lt X j) (pgR_lt X i),less_law (pgR_lt X j) (pgR_lt X i)]
    show (match compLoop _ _ with | none=>none | some b=>some ([PV.bool (pgB X i j)] ++ b))=_
    rw [ih fun z hz=>hj z (.tail _ hz)]
    rfl
  rw [e _ fun j hj=>List.mem_range.mp hj,Option.bind_some,szb_list _ (by rw [List.length_map,List.length_range]; exact Nat.le_of_lt (Nat.lt_of_lt_of_le hi (by decide)))]
  rfl
 have e:compLoop (lcF (laG (Cn n) (Mn n)) (valS (stm laB 9)) (laS [a,n',p,l,d,u,x,y,z,r,.list (nanV (pgT X) (pgR X))])) [.int 0,.int 1,.int 2,.int 3,.int 4,.int 5,.int 6]=some (upto 7 fun i=>.list (upto i fun j=>.bool (pgB X i j))):=by
  have a0:=e1 0 (by decide)
  have a1:=e1 1 (by decide)
  have a2:=e1 2 (by decide)
  have a3:=e1 3 (by decide)
  have a4:=e1 4 (by decide)
  have a5:=e1 5 (by decide)
  have a6:=e1 6 (by decide)
  rw [show ((0:Nat):Int)=0 from rfl] at a0
  rw [show ((1:Nat):Int)=1 from rfl] at a1
  rw [show ((2:Nat):Int)=2 from rfl] at a2
  rw [show ((3:Nat):Int)=3 from rfl] at a3
  rw [show ((4:Nat):Int)=4 from rfl] at a4
  rw [show ((5:Nat):Int)=5 from rfl] at a5
  rw [show ((6:Nat):Int)=6 from rfl] at a6
  simp only [compLoop,a0,a1,a2,a3,a4,a5,a6,List.cons_append,List.nil_append]
  rfl
 rw [e]
 exact la_9a _ _ _ _ _ _ _ _ _ _ _ _ _ _
theorem due_ok:neR (repR (dueB X)) (repR (dueB X))=some false:=by
 have e:dueB X=.list (((List.range 7).map fun i=>upto i fun j=>pgB X i j).map fun r=>.list (r.map .bool)):=by
  unfold dueB dueV upto
  rw [List.map_map]
  simp only [Function.comp_def,List.map_map]
 rw [e]
 exact repr_rows _ (by simp) fun r hr=>by
  obtain ⟨i,hi,rfl⟩:=List.mem_map.mp hr
  have:=List.mem_range.mp hi
  simp [upto]; exact Nat.le_of_lt this
theorem rows_ok:okN 8 (roV X)=true:=by
 show (rowV (pgT X) (pgO X)).all (okN 7)=true
 have h:∀ i,okN 7 (.tuple [.str (pgT X i),.int (pgO X i)])=true:=by
  intro i
  show ((pgT X i).all (fun c=>decide (c < 1114112)) && (true && true))=true
  have:((pgT X i).all fun c=>decide (c < 1114112))=true:=by
   rw [List.all_eq_true]
   intro c hc
   have hs:=fun hc'=>ld_sign (pgR_lt X i) c hc'
   have hn:=pgN_lt X i
   unfold pgT at hc
   refine decide_eq_true ?_
   cases h:pgF X i
   ·rw [h] at hc
    rcases hs hc with h | h <;> omega
   ·rw [h] at hc
    rcases List.mem_append.mp hc with hc | hc
    ·rcases hs hc with h | h <;> omega
    ·rw [List.mem_singleton] at hc; omega
  rw [this]; rfl
 unfold rowV seven
 simp only [List.all_cons,List.all_nil,h,Bool.and_true]
theorem law_6 (a n' p l d u y z:PV):ex (laG (Cn n) (Mn n)) (stm laB 6) (laS [a,n',p,l,d,u,syV X,y,z])=some (.next,laS [a,n',p,l,d,u,syV X,y,z,roV X]):=by
 rw [la_6]
 have hk:∀ i,pgK X i < 0 ∨ (0 ≤ pgK X i ∧ pgK X i < 26):=fun i=>inU_range _ _ _
 have hok:=sys_ok (pgR X) (pgP X) (pgK X) (pgR_lt X) hk is7
 have hlen:=sysP_len (pgR X) (pgP X) (pgK X) (pgR_lt X) is7
 rw [show is7.length=7 from rfl] at hlen
 have e:syV X=.list ((sysN (pgR X) (pgP X) (pgK X) ++ [0]).map fun (x:Nat)=>PV.int x):=by
  unfold syV sysN
  rw [List.map_append,List.map_append,List.map_map]
  congr 2
  apply List.map_congr_left
  intro x hx
  have:=(hok x hx).2
  show PV.int x=PV.int ((x.toNat:Nat):Int)
  rw [show ((x.toNat:Nat):Int)=x by omega]
 have o:(Cn n) n_octets [syV X]=some (.bytes (octA 0 (sysN (pgR X) (pgP X) (pgK X) ++ [0]))):=by
  rw [e]
  refine octets_eq (n + 1) _ (fun x hx=>?_) (by unfold sysN; rw [List.length_append,List.length_map,List.length_singleton]; exact Nat.lt_of_le_of_lt hlen (by decide)) (by simp)
  rcases List.mem_append.mp hx with hx | hx
  ·unfold sysN at hx
   obtain ⟨y,hy,rfl⟩:=List.mem_map.mp hx
   have h1:=hok y hy
   have lt:=of_decide_eq_true (List.all_eq_true.mp symL_lt y h1.1)
   omega
  ·rw [List.mem_singleton.mp hx]; decide
 have q:(Cn n) n_read [.bytes (octA 0 (sysN (pgR X) (pgP X) (pgK X) ++ [0]))]=some (roV X):=by
  rw [show (Cn n) n_read=(O (n + 2)).call n_read from rfl,read_eq n (pgR X) (pgP X) (pgK X) (pgR_lt X) hk,rows_eq]
  rfl
 rw [cCall1,o,Option.map_some,cCall1,q]
 exact la_6a _ _ _ _ _ _ _ _ _ _ _ _
theorem law_11 (a n' p l d u x y z w:PV):ex (laG (Cn n) (Mn n)) (stm laB 11) (laS [a,n',p,l,d,u,x,y,z,roV X,w,dueB X])=some (.next,laS [a,n',p,l,d,u,x,y,z,roV X,w,dueB X,waV X,brV X]):=by
 rw [la_11]
 have e1:(Cn n) n_ups [dueB X]=some (upV X):=ups_eq (n + 1) (pgB X)
 rw [cCall1,e1,Option.map_some,cCall2]
 have e2:=sides_eq (n + 1) (rowOk X) (u:=pgU X) (v:=pgV X) fun i h1 h6=>pgV_eq X h1 h6
 rw [sets_phi,sets_phi] at e2
 have e3:(Cn n) n_sides [roV X,upV X]=some (.list [waV X,brV X]):=e2
 rw [e3]
 exact la_11a _ _ _ _ _ _ _ _ _ _ _ _ _ _ _ _
theorem law_14 (a n' p l d x r w t g h s:PV):ex (laG (Cn n) (Mn n)) (stm laB 14) (laS [a,n',p,l,d,upV X,x,roV X,kiV X,r,w,t,g,h,wnV X,s])=some (.next,laS [a,n',p,l,d,upV X,x,roV X,kiV X,r,w,t,g,h,wnV X,s]):=by
 have c:=chk_pg X
 rw [la_14]
 have e1:(Cn n) n_truth [roV X,kiV X,upV X]=some (.list ((List.range (2 ^ (pgLs X).length)).map fun x=>.int (tbP (truthP' (odd0 (pgO X)) (pgF X) (pgLs X).length (pgV X)) x:Nat))):=
  truth_eq (n + 1) (kindsOk X) fun i h1 h6=>pgV_eq X h1 h6
 have e2:=least_eq n (kindsOk X) (fun i zz zz=>pgN_lt X i) (tbP (truthP' (odd0 (pgO X)) (pgF X) (pgLs X).length (pgV X))) (by rw [show (ltN (pgF X) (pgN X))=pgLs X from rfl,← c.ways.length_eq]; exact c.wl)
 have e:cCall ((Cn n) n_least) [cCall ((Cn n) n_truth) [some (.v (roV X)),some (.v (kiV X)),some (.v (upV X))],some (.v (kiV X))]=some (.v (wnV X)):=by
  rw [cCall3,e1,Option.map_some,cCall2]
  show ((O (n + 2)).call n_least [.list ((List.range (2 ^ (ltN (pgF X) (pgN X)).length)).map fun x=>.int (tbP (truthP' (odd0 (pgO X)) (pgF X) (pgLs X).length (pgV X)) x:Nat)),.list (upsV (pgK X))]).map EV.v=_
  rw [e2]
  show some (EV.v (.list (sortV ((leastP (pgLs X).length (tbP (truthP' (odd0 (pgO X)) (pgF X) (pgLs X).length (pgV X)))).map (wordsM (ltX X))))))=_
  rw [← sortV_congr (c.ways.map (wordsM (ltX X)))]
  rfl
 have hs:okN 8 (wnV X)=true:=sortV_ok (lt_26 X) _
 rw [e,ne_self hs]
 rfl
theorem law_15 (a n' p l d u x y r w t g h:PV):ex (laG (Cn n) (Mn n)) (stm laB 15) (laS [a,n',p,l,d,u,x,y,kiV X,r,w,t,g,h,wnV X,bnV X])=some (.ret (.bool true),laS [a,n',p,l,d,u,x,y,kiV X,r,w,t,g,h,wnV X,bnV X]):=by
 have c:=chk_pg X
 unfold kiV
 rw [la_15,letters_eq (kindsOk X) (la_15e _ _ _ _ _ _ _ _ _ _ _ _ _ _ _ _ _ _)]
 obtain ⟨ws,p1,p2⟩:=sortV_map ((pgA X).map fun x=>bitsF (phi (pgLs X) x)) (fun ks=>joinL (ks.map nameS))
 have e0:wnV X=.list (ws.map fun ks=>.str (joinL (ks.map nameS))):=by
  unfold wnV
  rw [← p2,List.map_map]
  congr 2
  apply List.map_congr_left
  intro x hx
  exact (wd_phi X (c.wlt x hx).2).symm
 have hw:∀ ks ∈ ws,ks ≠ [] ∧ ks.length ≤ 100 ∧ ∀ k ∈ ks,k ∈ pgLs X:=by
  intro ks hks
  obtain ⟨x,hx,rfl⟩:=List.mem_map.mp (p1.mem_iff.mp hks)
  obtain ⟨h0,h1⟩:=c.wlt x hx
  refine ⟨fun e=>?_,Nat.le_trans (List.length_filter_le _ _) (by decide),fun k hk=>?_⟩
  ·have hne:=phi_ne (ls:=pgLs X) (Nat.lt_of_lt_of_le h1 (two_le X)) h0
   have:=place_phi (ls_26 X) (ls_len X) (ls_nodup X) h1
   rw [e] at this
   have e0:placeM (pgLs X) []=0:=rfl
   omega
  ·rw [bits_phi (ls_26 X) (ls_nodup X) h1] at hk
   obtain ⟨b,hb,rfl⟩:=List.mem_map.mp (sortN_mem hk)
   exact (getD_mem (bit_lt h1 hb)).1
 have hp:List.Perm (ws.map (placeM (pgLs X))) (pgA X):=by
  refine (p1.map _).trans ?_
  rw [List.map_map]
  have:(pgA X).map (placeM (pgLs X) ∘ fun x=>bitsF (phi (pgLs X) x))=pgA X:=by
   have h:∀ x ∈ pgA X,(placeM (pgLs X) ∘ fun x=>bitsF (phi (pgLs X) x)) x=id x:=fun x hx=>place_phi (ls_26 X) (ls_len X) (ls_nodup X) (c.wlt x hx).2
   rw [List.map_congr_left h,List.map_id]
  rw [this]
 have hb:=barsP_congr (L:=(pgLs X).length) hp
 have e2:=bars_eq n (pgLs X) ws (ls_26 X) (ls_len X) hw (by rw [p1.length_eq,List.length_map]; have:=c.wl; exact Nat.le_of_lt (Nat.lt_of_lt_of_le this (by decide))) (by rw [hb,← c.bars.length_eq]; exact c.bl)
 have e:cCall ((Cn n) n_bars) [some (.v (wnV X)),some (.v (.list (nPV (ltN (pgF X) (pgN X)))))]=some (.v (bnV X)):=by
  show ((O (n + 2)).call n_bars [wnV X,.list (nPV (pgLs X))]).map EV.v=_
  rw [e0,e2,hb]
  show some (EV.v (.list (sortV ((barsP (pgLs X).length (pgA X)).map (wordsM (ltX X))))))=_
  rw [← sortV_congr (c.bars.map (wordsM (ltX X)))]
  rfl
 rw [e]
 have hs:okN 8 (bnV X)=true:=sortV_ok (lt_26 X) _
 have key:eqR' (some (.v (bnV X))) (some (.v (bnV X)))=some (.v (.bool true)):=by
  show Option.map _ ((pvEq (bnV X) (bnV X)).bind _)=_
  rw [pv_self hs]
  rfl
 rw [key]
 rfl
theorem law_run (s:List Int) (hs:s.length ≤ 63):retOf (exs (laG (Cn n) (Mn n)) laB (laS [.list (s.map .int)]))=some (.bool true):=by
 generalize hX:(fun i=>(nuS s).getD i 0)=X
 generalize ha:s.map PV.int=a
 show retOf (exs _ (dropS laB 0) _)=_
 have s0:ex (laG (Cn n) (Mn n)) (stm laB 0) (laS [.list a])=some (.next,laS [.list a,numV X]):=by
  rw [la_0,← ha]
  show laR _ _ 0 "numbers" _ (((O (n + 1 + 1)).call n_numbers [.list (s.map .int)]).map .v)=_
  rw [numbers_eq _ s hs,seven_of (nuS_len s),← hX]
  exact la_0b _ _ _ _
 have s1:ex (laG (Cn n) (Mn n)) (stm laB 1) (laS [.list a,numV X])=some (.next,laS [.list a,numV X,parV X]):=la_1 _ _ _ _
 have s3:ex (laG (Cn n) (Mn n)) (stm laB 3) (laS [.list a,numV X,parV X,lvV X])=some (.next,laS [.list a,numV X,parV X,lvV X,dueB X]):=by
  unfold lvV
  rw [la_3]
  show laR _ _ 3 "due" _ (((O (n + 2)).call n_farther [.list (seven fun i=>.str (ld (pgR X i)))]).map .v)=_
  rw [farther_eq n (pgR X) (pgR_lt X)]
  exact la_3a _ _ _ _ _ _ _
 have s4:ex (laG (Cn n) (Mn n)) (stm laB 4) (laS [.list a,numV X,parV X,lvV X,dueB X])=some (.next,laS [.list a,numV X,parV X,lvV X,dueB X,upV X]):=by
  have:=la_4 (Cn n) (Mn n) (.list a) (numV X) (parV X) (lvV X) (upto 7 fun i=>.list (upto i fun j=>.bool (pgB X i j)))
  refine this.trans ?_
  show laR _ _ 4 "ups" _ (((O (n + 1 + 1)).call n_ups [dueV (pgB X)]).map .v)=_
  rw [ups_eq]
  exact la_4a _ _ _ _ _ _ _ _
 have s5:ex (laG (Cn n) (Mn n)) (stm laB 5) (laS [.list a,numV X,parV X,lvV X,dueB X,upV X])=some (.next,laS [.list a,numV X,parV X,lvV X,dueB X,upV X,syV X,roV X,kiV X]):=by
  rw [la_5]
  show asgP _ _ _ (((O (n + 2)).call n_page [.list (seven fun i=>.int (pgP X i)),.list (seven fun i=>.str (ld (pgR X i))),.list (seven fun i=>.int (pgU X i))]).map .v)=_
  rw [page_eq n (pgP X) (pgU X) (pgR X) (pgR_lt X)]
  have e:pageV (pgR X) (pgP X) (fun i=>kd (pgP X) (pgU X) i)=.tuple [syV X,roV X,kiV X]:=by
   unfold pageV roV
   rw [← rows_eq]
   rfl
  rw [e]
  exact la_5a _ _ _ _ _ _ _ _ _ _ _
 have s7:ex (laG (Cn n) (Mn n)) (stm laB 7) (laS [.list a,numV X,parV X,lvV X,dueB X,upV X,syV X,roV X,kiV X,roV X])=some (.next,laS [.list a,numV X,parV X,lvV X,dueB X,upV X,syV X,roV X,kiV X,roV X]):=by
  rw [la_7,ne_self (rows_ok X)]; rfl
 have s10:ex (laG (Cn n) (Mn n)) (stm laB 10) (laS [.list a,numV X,parV X,lvV X,dueB X,upV X,syV X,roV X,kiV X,roV X,naV X,dueB X])=some (.next,laS [.list a,numV X,parV X,lvV X,dueB X,upV X,syV X,roV X,kiV X,roV X,naV X,dueB X]):=by
  rw [la_10,due_ok X]; rfl
 have c:=chk_pg X
 have s12:ex (laG (Cn n) (Mn n)) (stm laB 12) (laS [.list a,numV X,parV X,lvV X,dueB X,upV X,syV X,roV X,kiV X,roV X,naV X,dueB X,waV X,brV X])=some (.next,laS [.list a,numV X,parV X,lvV X,dueB X,upV X,syV X,roV X,kiV X,roV X,naV X,dueB X,waV X,brV X,wnV X]):=by
  unfold waV
  rw [la_12,named X (n:=n + 1) (fun e=>la_12e _ _ _ _ _ _ _ _ _ _ _ _ _ _ _ _ e) c.wlt c.wl]
  exact la_12a _ _ _ _ _ _ _ _ _ _ _ _ _ _ _ _ _
 have s13:ex (laG (Cn n) (Mn n)) (stm laB 13) (laS [.list a,numV X,parV X,lvV X,dueB X,upV X,syV X,roV X,kiV X,roV X,naV X,dueB X,waV X,brV X,wnV X])=some (.next,laS [.list a,numV X,parV X,lvV X,dueB X,upV X,syV X,roV X,kiV X,roV X,naV X,dueB X,waV X,brV X,wnV X,bnV X]):=by
  unfold brV
  rw [la_13,named X (n:=n + 1) (fun e=>la_13e _ _ _ _ _ _ _ _ _ _ _ _ _ _ _ _ _ e) c.blt c.bl]
  exact la_13a _ _ _ _ _ _ _ _ _ _ _ _ _ _ _ _ _ _
 rw [xs_at (b:=laB) 0 (by kernel_rfl) s0,xs_at (b:=laB) 1 (by kernel_rfl) s1,xs_at (b:=laB) 2 (by kernel_rfl) (law_2 n X (.list a)),xs_at (b:=laB) 3 (by kernel_rfl) s3,xs_at (b:=laB) 4 (by kernel_rfl) s4,xs_at (b:=laB) 5 (by kernel_rfl) s5,
  xs_at (b:=laB) 6 (by kernel_rfl) (law_6 n X _ _ _ _ _ _ _ _),xs_at (b:=laB) 7 (by kernel_rfl) s7,xs_at (b:=laB) 8 (by kernel_rfl) (law_8 n X _ _ _ _ _ _ _ _ _),xs_at (b:=laB) 9 (by kernel_rfl) (law_9 n X _ _ _ _ _ _ _ _ _ _),xs_at (b:=laB) 10 (by kernel_rfl) s10,
  xs_at (b:=laB) 11 (by kernel_rfl) (law_11 n X _ _ _ _ _ _ _ _ _ _),xs_at (b:=laB) 12 (by kernel_rfl) s12,xs_at (b:=laB) 13 (by kernel_rfl) s13,xs_at (b:=laB) 14 (by kernel_rfl) (law_14 n X _ _ _ _ _ _ _ _ _ _ _ _),xs_ret (b:=laB) 15 (by kernel_rfl) (law_15 n X _ _ _ _ _ _ _ _ _ _ _ _ _)]
 rfl
end
theorem law_true (n:Nat) (s:List Int) (hs:s.length ≤ 63):(O (n + 3)).call n_law [.list (s.map .int)]=some (.bool true):=by
 refine call_def (D:=df n_law) (by kernel_rfl) (by kernel_rfl) (by kernel_rfl) ?_
 have e:zipArgs (df n_law).params [.list (s.map .int)]=laS [.list (s.map .int)]:=by kernel_rfl
 rw [e]
 exact law_run n s hs
end Mine.V
namespace Mine.V
open PySem PySem.W PyProof.Rows PySem.Calls
noncomputable abbrev hF (w:World):Heap:=Mine.G.hpF w.params
noncomputable def C2 (w:World):Cx:={ cls:=83,hb:=hF w,gl:=3,bi:=0,gm:=(hF w).nsMap 3,bm:=(hF w).nsMap 0,me:=fun zz=>False }
section
variable (w:World) (me:Value → Prop)
theorem g_cls:(C2 w).gm (mkS n_Whitespace)=some (.ref 83):=by kernel_rfl
theorem const_ok:∀ x d,T2.const x=some d → Glob ((C2 w).as me) x (Rep ((C2 w).as me) (BX ((C2 w).as me)) ((C2 w).as me).hb d):=fun x d h=>
 bor (c:=nmEq x n_NT) h (fun h1 h=>osome h (.mk (.g (by rw [nmEq_of h1]; kernel_rfl)) (show IntV 256 (.int 256 2478) from .mk _))) fun h=>
 bor (c:=nmEq x n_OP) h (fun h1 h=>osome h (.mk (.g (by rw [nmEq_of h1]; kernel_rfl)) (show IntV 55 (.int 55 2476) from .mk _))) fun h=>
 oif h fun h1 h=>osome h (.mk (.g (by rw [nmEq_of h1]; kernel_rfl)) (show IntV 0 (.int 0 2378) from .mk _))
theorem memN_in {x:Nm}:∀ {l:List Nm},memN x l=true → x ∈ l
 | y :: r,h=>bor' (a:=nmEq y x) h (fun h=>nmEq_of h ▸ .head _) fun h=>.tail _ (memN_in h)
theorem bname_ok:∀ f,isBuiltin f=true → GV ((C2 w).as me) f (fnV f):=by
 intro f h
 have h:f ∈ [n_len,n_max,n_sum,n_ord,n_chr,n_sorted,n_repr,n_hex,n_tuple,n_bytes]:=memN_in h
 simp only [List.mem_cons,List.not_mem_nil,or_false] at h
 rcases h with rfl | rfl | rfl | rfl | rfl | rfl | rfl | rfl | rfl | rfl <;> exact .b (by kernel_rfl) (by kernel_rfl)
theorem bval_ok:∀ p ∈ [(n_range,Value.type "range"),(n_list,.type "list"),(n_zip,.type "zip"),(n_iter,.builtin "iter"),(n_next,.builtin "next")],GV ((C2 w).as me) p.1 p.2:=by
 intro p h
 simp only [List.mem_cons,List.not_mem_nil,or_false] at h
 rcases h with rfl | rfl | rfl | rfl | rfl <;> exact .b (by kernel_rfl) (by kernel_rfl)
end
noncomputable def atO (h:Heap) (a:Addr):Obj:=(h.get? a).getD ⟨.none,none,.plain,#[]⟩
noncomputable def fnO (o:Obj):FuncData:=match o.data with
 | .func fd=>fd
 | _=>{ name:=mkS [],qualname:=mkS [],params:=default,body:=.stmts [],scope:=default,globals:=0,closure:=[],defaults:=.none,kwdefaults:=.none,doc:=.none,pyModule:=.none,annotations:=none,code:=.none,closureTuple:=.none,builtins:=0 }
noncomputable def rfO:Value → Addr
 | .ref a=>a
 | _=>0
noncomputable def fldO (o:Obj):Array Value:=match o.data with
 | .fields vs=>vs
 | _=>#[]
noncomputable def tkO:Option Value → Tok
 | some (.str _ t)=>t
 | _=>0
noncomputable abbrev fnA (w:World) (a:Addr):FuncData:=fnO (atO (hF w) a)
noncomputable abbrev cdA (w:World) (a:Addr):Obj:=atO (hF w) (rfO (fnA w a).code)
structure FnI where
 g:Option Obj
 cls:Value
 data:Data
 body:FuncBody
 sc:Scope
 gl:Addr
 bi:Addr
 clo:List (PySem.Str × Addr)
 code:Value
 cg:Option Obj
 cd:Data
 q:Option Value
theorem fit_of {w:World} {me:Value → Prop} {a:Addr} {D:Df} (e:(⟨(hF w).get? a,(atO (hF w) a).cls,(atO (hF w) a).data,(fnA w a).body,(fnA w a).scope,(fnA w a).globals,(fnA w a).builtins,(fnA w a).closure,(fnA w a).code,(hF w).get? (rfO (fnA w a).code),(cdA w a).data,(fldO (cdA w a))[1]?⟩:FnI)
   = ⟨some (atO (hF w) a),.type "function",.func (fnA w a),.stmts (sbs D.body),D.sc,3,0,[],.ref (rfO (fnA w a).code),some (cdA w a),.fields (fldO (cdA w a)),some (.str (fnA w a).qualname (tkO (fldO (cdA w a))[1]?))⟩)
  (hb:∀ vals:List Value,vals.length=D.params.length → bindArgs (fnA w a) ⟨vals,[]⟩=pure ((D.params.map mkS).zip vals)) (hs:scFit D=true):DefFit ((C2 w).as me) D a:=
 .mk (congrArg FnI.g e) (congrArg FnI.cls e) (congrArg FnI.data e) (congrArg FnI.body e) (congrArg FnI.sc e) (congrArg FnI.gl e) (congrArg FnI.bi e) (congrArg FnI.clo e) ⟨_,_,_,_,congrArg FnI.code e,congrArg FnI.cg e,congrArg FnI.cd e,congrArg FnI.q e⟩ hb hs
noncomputable def dfI (i:Nat):Df:=dfOf (Mine.G.fArgs (Mine.G.stN i)) (Mine.G.fBody (Mine.G.stN i)) (Mine.G.fScope (Mine.G.stN i))
noncomputable def dfM (j:Nat):Df:=dfOf (Mine.G.fArgs (Mine.G.stC 2 j)) (Mine.G.fBody (Mine.G.stC 2 j)) (Mine.G.fScope (Mine.G.stC 2 j))
theorem len1 {l:List Value} {n:Nat} {fd:FuncData} {ps:List PySem.Str} (h:l.length=n) (e:n=1) (k:∀ a,bindArgs fd ⟨[a],[]⟩=pure (ps.zip [a])):bindArgs fd ⟨l,[]⟩=pure (ps.zip l):=by
 subst e
 cases l with
 | nil=>cases h
 | cons a l=>cases l with
  | nil=>exact k a
  | cons _ _=>cases h
theorem len2 {l:List Value} {n:Nat} {fd:FuncData} {ps:List PySem.Str} (h:l.length=n) (e:n=2) (k:∀ a b,bindArgs fd ⟨[a,b],[]⟩=pure (ps.zip [a,b])):bindArgs fd ⟨l,[]⟩=pure (ps.zip l):=by
 subst e
 cases l with
 | nil=>cases h
 | cons a l=>cases l with
  | nil=>cases h
  | cons b l=>cases l with
   | nil=>exact k a b
   | cons _ _=>cases h
theorem len3 {l:List Value} {n:Nat} {fd:FuncData} {ps:List PySem.Str} (h:l.length=n) (e:n=3) (k:∀ a b c,bindArgs fd ⟨[a,b,c],[]⟩=pure (ps.zip [a,b,c])):bindArgs fd ⟨l,[]⟩=pure (ps.zip l):=by
 subst e
 cases l with
 | nil=>cases h
 | cons a l=>cases l with
  | nil=>cases h
  | cons b l=>cases l with
   | nil=>cases h
   | cons c l=>cases l with
    | nil=>exact k a b c
    | cons _ _=>cases h
section
variable (w:World) (me:Value → Prop)
theorem fit_0:DefFit ((C2 w).as me) (dfI 0) 21:=fit_of (by kernel_rfl) (fun l h=>len1 h (by kernel_rfl) fun zz=>by kernel_rfl) (by kernel_rfl)
theorem fit_5:DefFit ((C2 w).as me) (dfI 5) 95:=fit_of (by kernel_rfl) (fun l h=>len1 h (by kernel_rfl) fun zz=>by kernel_rfl) (by kernel_rfl)
theorem fit_6:DefFit ((C2 w).as me) (dfI 6) 102:=fit_of (by kernel_rfl) (fun l h=>len1 h (by kernel_rfl) fun zz=>by kernel_rfl) (by kernel_rfl)
theorem fit_9:DefFit ((C2 w).as me) (dfI 9) 120:=fit_of (by kernel_rfl) (fun l h=>len1 h (by kernel_rfl) fun zz=>by kernel_rfl) (by kernel_rfl)
theorem fit_11:DefFit ((C2 w).as me) (dfI 11) 166:=fit_of (by kernel_rfl) (fun l h=>len1 h (by kernel_rfl) fun zz=>by kernel_rfl) (by kernel_rfl)
theorem fit_65:DefFit ((C2 w).as me) (dfI 65) 176:=fit_of (by kernel_rfl) (fun l h=>len1 h (by kernel_rfl) fun zz=>by kernel_rfl) (by kernel_rfl)
theorem fit_66:DefFit ((C2 w).as me) (dfI 66) 183:=fit_of (by kernel_rfl) (fun l h=>len1 h (by kernel_rfl) fun zz=>by kernel_rfl) (by kernel_rfl)
theorem fit_67:DefFit ((C2 w).as me) (dfI 67) 190:=fit_of (by kernel_rfl) (fun l h=>len1 h (by kernel_rfl) fun zz=>by kernel_rfl) (by kernel_rfl)
theorem fit_69:DefFit ((C2 w).as me) (dfI 69) 197:=fit_of (by kernel_rfl) (fun l h=>len1 h (by kernel_rfl) fun zz=>by kernel_rfl) (by kernel_rfl)
theorem fit_70:DefFit ((C2 w).as me) (dfI 70) 204:=fit_of (by kernel_rfl) (fun l h=>len1 h (by kernel_rfl) fun zz=>by kernel_rfl) (by kernel_rfl)
theorem fit_71:DefFit ((C2 w).as me) (dfI 71) 209:=fit_of (by kernel_rfl) (fun l h=>len1 h (by kernel_rfl) fun zz=>by kernel_rfl) (by kernel_rfl)
theorem fit_72:DefFit ((C2 w).as me) (dfI 72) 214:=fit_of (by kernel_rfl) (fun l h=>len1 h (by kernel_rfl) fun zz=>by kernel_rfl) (by kernel_rfl)
theorem fit_73:DefFit ((C2 w).as me) (dfI 73) 219:=fit_of (by kernel_rfl) (fun l h=>len1 h (by kernel_rfl) fun zz=>by kernel_rfl) (by kernel_rfl)
theorem fit_74:DefFit ((C2 w).as me) (dfI 74) 226:=fit_of (by kernel_rfl) (fun l h=>len1 h (by kernel_rfl) fun zz=>by kernel_rfl) (by kernel_rfl)
theorem fit_75:DefFit ((C2 w).as me) (dfI 75) 233:=fit_of (by kernel_rfl) (fun l h=>len1 h (by kernel_rfl) fun zz=>by kernel_rfl) (by kernel_rfl)
theorem fit_76:DefFit ((C2 w).as me) (dfI 76) 238:=fit_of (by kernel_rfl) (fun l h=>len2 h (by kernel_rfl) fun zz zz=>by kernel_rfl) (by kernel_rfl)
theorem fit_77:DefFit ((C2 w).as me) (dfI 77) 243:=fit_of (by kernel_rfl) (fun l h=>len3 h (by kernel_rfl) fun zz zz zz=>by kernel_rfl) (by kernel_rfl)
theorem fit_78:DefFit ((C2 w).as me) (dfI 78) 248:=fit_of (by kernel_rfl) (fun l h=>len1 h (by kernel_rfl) fun zz=>by kernel_rfl) (by kernel_rfl)
theorem fit_79:DefFit ((C2 w).as me) (dfI 79) 255:=fit_of (by kernel_rfl) (fun l h=>len1 h (by kernel_rfl) fun zz=>by kernel_rfl) (by kernel_rfl)
theorem fit_80:DefFit ((C2 w).as me) (dfI 80) 260:=fit_of (by kernel_rfl) (fun l h=>len2 h (by kernel_rfl) fun zz zz=>by kernel_rfl) (by kernel_rfl)
theorem fit_81:DefFit ((C2 w).as me) (dfI 81) 265:=fit_of (by kernel_rfl) (fun l h=>len3 h (by kernel_rfl) fun zz zz zz=>by kernel_rfl) (by kernel_rfl)
theorem fit_82:DefFit ((C2 w).as me) (dfI 82) 270:=fit_of (by kernel_rfl) (fun l h=>len1 h (by kernel_rfl) fun zz=>by kernel_rfl) (by kernel_rfl)
theorem fit_83:DefFit ((C2 w).as me) (dfI 83) 275:=fit_of (by kernel_rfl) (fun l h=>len2 h (by kernel_rfl) fun zz zz=>by kernel_rfl) (by kernel_rfl)
theorem fit_84:DefFit ((C2 w).as me) (dfI 84) 280:=fit_of (by kernel_rfl) (fun l h=>len2 h (by kernel_rfl) fun zz zz=>by kernel_rfl) (by kernel_rfl)
theorem fit_85:DefFit ((C2 w).as me) (dfI 85) 285:=fit_of (by kernel_rfl) (fun l h=>len1 h (by kernel_rfl) fun zz=>by kernel_rfl) (by kernel_rfl)
theorem fitm_1:DefFit ((C2 w).as me) (dfM 1) 38:=fit_of (by kernel_rfl) (fun l h=>len2 h (by kernel_rfl) fun zz zz=>by kernel_rfl) (by kernel_rfl)
theorem fitm_2:DefFit ((C2 w).as me) (dfM 2) 45:=fit_of (by kernel_rfl) (fun l h=>len1 h (by kernel_rfl) fun zz=>by kernel_rfl) (by kernel_rfl)
theorem fitm_3:DefFit ((C2 w).as me) (dfM 3) 52:=fit_of (by kernel_rfl) (fun l h=>len2 h (by kernel_rfl) fun zz zz=>by kernel_rfl) (by kernel_rfl)
theorem fitm_4:DefFit ((C2 w).as me) (dfM 4) 59:=fit_of (by kernel_rfl) (fun l h=>len2 h (by kernel_rfl) fun zz zz=>by kernel_rfl) (by kernel_rfl)
theorem fitm_5:DefFit ((C2 w).as me) (dfM 5) 66:=fit_of (by kernel_rfl) (fun l h=>len2 h (by kernel_rfl) fun zz zz=>by kernel_rfl) (by kernel_rfl)
theorem fitm_6:DefFit ((C2 w).as me) (dfM 6) 73:=fit_of (by kernel_rfl) (fun l h=>len2 h (by kernel_rfl) fun zz zz=>by kernel_rfl) (by kernel_rfl)
theorem fitm_7:DefFit ((C2 w).as me) (dfM 7) 80:=fit_of (by kernel_rfl) (fun l h=>len2 h (by kernel_rfl) fun zz zz=>by kernel_rfl) (by kernel_rfl)
end
theorem look_in {α:Type} {x:Nm} {a:α}:∀ {l:List (Nm × α)},lookN x l=some a → (x,a) ∈ l
 | (y,b) :: r,h=>bor (c:=nmEq y x) h (fun e h=>by cases nmEq_of e; cases h; exact .head _) fun h=>.tail _ (look_in h)
noncomputable def dfL:List (Nm × Df):=[(nm "_wall",dfI 0),(nm "pretty_flags",dfI 5),(nm "_parse_varint",dfI 6),(nm "in_table_b1",dfI 9),(nm "map_table_b3",dfI 11),(nm "ISTERMINAL",dfI 65),(nm "ISNONTERMINAL",dfI 66),(nm "ISEOF",dfI 67),(nm "_law_numbers",dfI 69),(nm "_law_lead",dfI 70),(nm "_law_columns",dfI 71),(nm "_law_farther",dfI 72),(nm "_law_ups",dfI 73),(nm "_law_unseen",dfI 74),(nm "_law_operator",dfI 75),(nm "_law_spelled",dfI 76),(nm "_law_page",dfI 77),(nm "_law_octets",dfI 78),(nm "_law_read",dfI 79),(nm "_law_sides",dfI 80),(nm "_law_truth",dfI 81),(nm "_law_words",dfI 82),(nm "_law_least",dfI 83),(nm "_law_bars",dfI 84),(nm "law",dfI 85)]
theorem dfs_eq:T2.dfs=dfL:=by kernel_rfl
noncomputable def dmL:List (Nm × Df):=[(nm "__init__",dfM 1),(nm "longest_run_of_spaces",dfM 2),(nm "indent_level",dfM 3),(nm "equal",dfM 4),(nm "not_equal_witness",dfM 5),(nm "less",dfM 6),(nm "not_less_witness",dfM 7)]
theorem meths_eq:T2.meths=dmL:=by kernel_rfl
section
variable (w:World) (me:Value → Prop)
theorem dfs_ok:∀ f D,lookN f T2.dfs=some D → nmEq f T2.cls=false → ∃ fA:Addr,(C2 w).gm (mkS f)=some (.ref fA) ∧ DefFit ((C2 w).as me) D fA:=by
 intro f D h _
 rw [dfs_eq] at h
 have all:∀ p ∈ dfL,∃ fA:Addr,(C2 w).gm (mkS p.1)=some (.ref fA) ∧ DefFit ((C2 w).as me) p.2 fA:=by
  unfold dfL
  exact List.forall_mem_cons.mpr ⟨⟨21,by kernel_rfl,fit_0 w me⟩,List.forall_mem_cons.mpr ⟨⟨95,by kernel_rfl,fit_5 w me⟩,List.forall_mem_cons.mpr ⟨⟨102,by kernel_rfl,fit_6 w me⟩,List.forall_mem_cons.mpr ⟨⟨120,by kernel_rfl,fit_9 w me⟩,List.forall_mem_cons.mpr ⟨⟨166,by kernel_rfl,fit_11 w me⟩,List.forall_mem_cons.mpr ⟨⟨176,by kernel_rfl,fit_65 w me⟩,List.forall_mem_cons.mpr ⟨⟨183,by kernel_rfl,fit_66 w me⟩,List.forall_mem_cons.mpr ⟨⟨190,by kernel_rfl,fit_67 w me⟩,List.forall_mem_cons.mpr ⟨⟨197,by kernel_rfl,fit_69 w me⟩,List.forall_mem_cons.mpr ⟨⟨204,by kernel_rfl,fit_70 w me⟩,List.forall_mem_cons.mpr ⟨⟨209,by kernel_rfl,fit_71 w me⟩,List.forall_mem_cons.mpr ⟨⟨214,by kernel_rfl,fit_72 w me⟩,List.forall_mem_cons.mpr ⟨⟨219,by kernel_rfl,fit_73 w me⟩,List.forall_mem_cons.mpr ⟨⟨226,by kernel_rfl,fit_74 w me⟩,List.forall_mem_cons.mpr ⟨⟨233,by kernel_rfl,fit_75 w me⟩,List.forall_mem_cons.mpr ⟨⟨238,by kernel_rfl,fit_76 w me⟩,List.forall_mem_cons.mpr ⟨⟨243,by kernel_rfl,fit_77 w me⟩,List.forall_mem_cons.mpr ⟨⟨248,by kernel_rfl,fit_78 w me⟩,List.forall_mem_cons.mpr ⟨⟨255,by kernel_rfl,fit_79 w me⟩,List.forall_mem_cons.mpr ⟨⟨260,by kernel_rfl,fit_80 w me⟩,List.forall_mem_cons.mpr ⟨⟨265,by kernel_rfl,fit_81 w me⟩,List.forall_mem_cons.mpr ⟨⟨270,by kernel_rfl,fit_82 w me⟩,List.forall_mem_cons.mpr ⟨⟨275,by kernel_rfl,fit_83 w me⟩,List.forall_mem_cons.mpr ⟨⟨280,by kernel_rfl,fit_84 w me⟩,List.forall_mem_cons.mpr ⟨⟨285,by kernel_rfl,fit_85 w me⟩,List.forall_mem_nil _⟩⟩⟩⟩⟩⟩⟩⟩⟩⟩⟩⟩⟩⟩⟩⟩⟩⟩⟩⟩⟩⟩⟩⟩⟩
 exact all _ (look_in h)
noncomputable abbrev nsW (w:World):PySem.Str → Option Value:=(hF w).nsMap 82
theorem cls_obj:(C2 w).hb.get? 83=some (excClassObj (mkS n_Whitespace) (mkS n_Whitespace) 83 82 [.type "object"] [.type "object"] true [] [] false none none none none (some (.str (mkS n_Whitespace) 196)) (some (.str (mkS n_Whitespace) 204)) (some (.bool true)) "object.__new__"):=by kernel_rfl
theorem cls_ns:(C2 w).hb.Ns 82 (nsW w):=Heap.Ns.of_isNs (by kernel_rfl)
theorem cls_ok:∀ D,lookN n_init T2.meths=some D → (C2 w).gm (mkS T2.cls)=some (.ref (C2 w).cls) ∧ ClsFit ((C2 w).as me) D:=by
 intro D h
 have e:lookN n_init T2.meths=some (dfM 1):=by rw [meths_eq]; kernel_rfl
 rw [e] at h
 cases h
 exact ⟨g_cls w,.mk (cls_obj w) (cls_ns w) (by kernel_rfl) (fitm_1 w me)⟩
theorem meth_get {m:Nm} {f:Addr} {y:Option Value} {prog:Program} (hm:nsW w (mkS m)=some (.ref f)) (hf:(atO (hF w) f).cls=.type "function") (hg:(hF w).get? f=some (atO (hF w) f)) (hB:typeLookup (.type "object") (mkS m)=pure y) :
  ∀ A (s:Shared) (x:Addr) mA pl Q E,Leaf A → Keep NoX (hF w) s.heap → s.heap.Inst x 83 mA → mA (mkS m)=none → Q (.ref f,[.ref x]) s → wpAny (model prog w) A (getMethod (.ref x) (mkS m) pl) Q E s:=fun A s x mA pl Q E zz k I hn h=>by
 obtain ⟨h0,g0,d0,t0,os0⟩:=s
 have up:∀ b o,(hF w).get? b=some o → h0.get? b=some o:=fun b o e=>k b o e id
 exact method_of (up _ _ (cls_obj w)) (Ns.keepX (cls_ns w) k id) (by kernel_rfl) (by kernel_rfl) hm (up _ _ hg) hf hB I hn h
theorem meths_ok (prog:Program):∀ m D,lookN m T2.meths=some D → ∃ f:Addr,DefFit ((C2 w).as me) D f ∧ ∀ A s x mA pl Q E,Leaf A → Keep NoX (C2 w).hb s.heap → s.heap.Inst x (C2 w).cls mA → mA (mkS m)=none → Q (.ref f,[.ref x]) s → wpAny (model prog w) A (getMethod (.ref x) (mkS m) pl) Q E s:=by
 intro m D h
 rw [meths_eq] at h
 have all:∀ p ∈ dmL,∃ f:Addr,DefFit ((C2 w).as me) p.2 f ∧ ∀ A (s:Shared) (x:Addr) mA pl Q E,Leaf A → Keep NoX (C2 w).hb s.heap → s.heap.Inst x (C2 w).cls mA → mA (mkS p.1)=none → Q (.ref f,[.ref x]) s → wpAny (model prog w) A (getMethod (.ref x) (mkS p.1) pl) Q E s:=by
  unfold dmL
  exact List.forall_mem_cons.mpr ⟨⟨38,fitm_1 w me,meth_get w (y:=some (.builtin "object.__init__")) (by kernel_rfl) (by kernel_rfl) (by kernel_rfl) (by rw [typeLookup_type,builtinLookup_eq_fast]; kernel_rfl)⟩,List.forall_mem_cons.mpr ⟨⟨45,fitm_2 w me,meth_get w (y:=none) (by kernel_rfl) (by kernel_rfl) (by kernel_rfl) (by rw [typeLookup_type,builtinLookup_eq_fast]; kernel_rfl)⟩,List.forall_mem_cons.mpr ⟨⟨52,fitm_3 w me,meth_get w (y:=none) (by kernel_rfl) (by kernel_rfl) (by kernel_rfl) (by rw [typeLookup_type,builtinLookup_eq_fast]; kernel_rfl)⟩,List.forall_mem_cons.mpr ⟨⟨59,fitm_4 w me,meth_get w (y:=none) (by kernel_rfl) (by kernel_rfl) (by kernel_rfl) (by rw [typeLookup_type,builtinLookup_eq_fast]; kernel_rfl)⟩,List.forall_mem_cons.mpr ⟨⟨66,fitm_5 w me,meth_get w (y:=none) (by kernel_rfl) (by kernel_rfl) (by kernel_rfl) (by rw [typeLookup_type,builtinLookup_eq_fast]; kernel_rfl)⟩,List.forall_mem_cons.mpr ⟨⟨73,fitm_6 w me,meth_get w (y:=none) (by kernel_rfl) (by kernel_rfl) (by kernel_rfl) (by rw [typeLookup_type,builtinLookup_eq_fast]; kernel_rfl)⟩,List.forall_mem_cons.mpr ⟨⟨80,fitm_7 w me,meth_get w (y:=none) (by kernel_rfl) (by kernel_rfl) (by kernel_rfl) (by rw [typeLookup_type,builtinLookup_eq_fast]; kernel_rfl)⟩,List.forall_mem_nil _⟩⟩⟩⟩⟩⟩⟩
 exact all _ (look_in h)
end
noncomputable def fldL:List Nm:=[nm "raw",nm "n",nm "nt",nm "norm",nm "is_simple"]
section
variable (w:World) (me:Value → Prop)
theorem fld_all:∀ a ∈ fldL,nsW w (mkS a)=none ∧ typeLookup (.type "object") (mkS a)=pure none:=by
 unfold fldL
 exact List.forall_mem_cons.mpr ⟨⟨by kernel_rfl,by rw [typeLookup_type,builtinLookup_eq_fast]; kernel_rfl⟩,List.forall_mem_cons.mpr ⟨⟨by kernel_rfl,by rw [typeLookup_type,builtinLookup_eq_fast]; kernel_rfl⟩,List.forall_mem_cons.mpr ⟨⟨by kernel_rfl,by rw [typeLookup_type,builtinLookup_eq_fast]; kernel_rfl⟩,List.forall_mem_cons.mpr ⟨⟨by kernel_rfl,by rw [typeLookup_type,builtinLookup_eq_fast]; kernel_rfl⟩,List.forall_mem_cons.mpr ⟨⟨by kernel_rfl,by rw [typeLookup_type,builtinLookup_eq_fast]; kernel_rfl⟩,List.forall_mem_nil _⟩⟩⟩⟩⟩
noncomputable abbrev TL (w:World) (me:Value → Prop):Th:=⟨lawP,w,(C2 w).as me,Leaf⟩
theorem fld_ok:∀ a,T2.fld a=true → ∀ A X s x mA v,At (TL w me) A X s → s.heap.Inst x 83 mA → mA (mkS a)=some v → handedOut v=pure v → Tr (model lawP w) A (getAttr (.ref x) (mkS a) true) s (VR s v):=by
 intro a ha A X s x mA v c I hv hh Q E q
 obtain ⟨f1,f2⟩:=fld_all w a (memN_in ha)
 have k:Keep NoX (hF w) s.heap:=c.base
 obtain ⟨h0,g0,d0,t0,os0⟩:=s
 have up:∀ b o,(hF w).get? b=some o → h0.get? b=some o:=fun b o e=>k b o e id
 exact load_attr (up _ _ (cls_obj w)) (Ns.keepX (cls_ns w) k id) (by kernel_rfl) f1 f2 I hv hh (q _ _ ⟨Ext.tok _ _ _,rfl⟩)
theorem sto_ok:∀ a,T2.fld a=true → ∀ A X s x mA ns v,At (TL w me) A X s → (hF w).get? x=none → s.heap.Inst x 83 mA → Within mA ns → ns.length ≤ 1000 → Tr (model lawP w) A (setAttr (.ref x) (mkS a) v) s fun zz s'=>SetR ((C2 w).as me) x a v mA s s':=by
 intro a ha A X s x mA ns v c hx I hw hl Q E q
 obtain ⟨f1,f2⟩:=fld_all w a (memN_in ha)
 have k:Keep NoX (hF w) s.heap:=c.base
 obtain ⟨h0,g0,d0,t0,os0⟩:=s
 have up:∀ b o,(hF w).get? b=some o → h0.get? b=some o:=fun b o e=>k b o e id
 exact store_attr F.store_object (up _ _ (cls_obj w)) (Ns.keepX (cls_ns w) k id) (by kernel_rfl) f1 f2 (fun e=>by subst e; cases (show (hF w).get? 83=_ from cls_obj w).symm.trans hx) I (fun h' tk' I' k1 k2=>q () ⟨h',g0,d0,tk',os0⟩ ⟨rfl,rfl,I',k1,k2⟩) hw (Nat.le_trans hl (by decide))
noncomputable def KC (w:World):Frag:=[(2,atO (hF w) 2),(82,atO (hF w) 82),(83,atO (hF w) 83)]
theorem kc_in:(KC w).In (hF w):=Frag.in_of (as:=[2,82,83]) (by kernel_rfl) (by kernel_rfl)
theorem cattr_ok:∀ c a d,T2.cattr c a=some d → Glob ((C2 w).as me) c fun vc=>∀ A X s,At (TL w me) A X s → Tr (model lawP w) A (getAttr vc (mkS a) true) s (ER ((C2 w).as me) X s (.v d)):=fun c a d h=>
 oif (c:=nmEq c n_Whitespace) h fun h1 h=>by
  rw [nmEq_of h1]
  refine .mk (.g (g_cls w)) fun A X s at_ Q E q=>?_
  have k:Keep NoX (hF w) s.heap:=at_.base
  have X1:(KC w).In s.heap:=(kc_in w).keeps fun b o e=>k b o e id
  refine bor (c:=nmEq a n_S) h (fun h2 h=>?_) fun h=>oif h fun h2 h=>?_
  ·cases h
   rw [nmEq_of h2]
   exact cls_value (v:=.str (mkS [32]) 209) (mc:=.type "type") X1 (by kernel_rfl) (by kernel_rfl) (by kernel_rfl) (q _ _ ⟨Ext.tok _ _ _,show StrV [32] _ from .mk _⟩)
  ·cases h
   rw [nmEq_of h2]
   exact cls_value (v:=.str (mkS [9]) 210) (mc:=.type "type") X1 (by kernel_rfl) (by kernel_rfl) (by kernel_rfl) (q _ _ ⟨Ext.tok _ _ _,show StrV [9] _ from .mk _⟩)
end
noncomputable def esO (o:Obj):Array DictEntry:=match o.data with
 | .dict es _=>es
 | _=>#[]
noncomputable def epO (o:Obj):Nat:=match o.data with
 | .dict _ n=>n
 | _=>0
noncomputable def keyI (e:DictEntry):Int:=match e.key with
 | .int i _=>i
 | _=>-1
noncomputable def keyT (e:DictEntry):Tok:=match e.key with
 | .int _ t=>t
 | .str _ t=>t
 | _=>0
noncomputable def keyS (e:DictEntry):PySem.Str:=match e.key with
 | .str s _=>s
 | _=>mkS []
noncomputable def valS' (e:DictEntry):PySem.Str:=match e.val with
 | .str s _=>s
 | _=>mkS []
noncomputable def valI (e:DictEntry):Int:=match e.val with
 | .int i _=>i
 | _=>0
noncomputable def valT (e:DictEntry):Tok:=match e.val with
 | .int _ t=>t
 | .str _ t=>t
 | _=>0
noncomputable abbrev esA (w:World) (a:Addr):List DictEntry:=(esO (atO (hF w) a)).toList
section
variable {prog:Program} {w w':World}
theorem map_int {a:Addr} (h1:(hF w).get? a=some (atO (hF w) a)) (h2:((atO (hF w) a).cls,(atO (hF w) a).dict,(atO (hF w) a).slots)=(.type "dict",none,#[])) (h3:(atO (hF w) a).data=.dict (esO (atO (hF w) a)) (epO (atO (hF w) a)))
  (h4:(esA w a).map (fun e=>(e.hash,e.key))=(esA w a).map fun e=>(hashInt (keyI e),.int (keyI e) (keyT e))):(hF w).MapOf (intKind prog w') a fun i=>((esA w a).find? fun e=>Value.isInt i e.key).map (·.val):=by
 obtain ⟨c1,c2⟩:=Prod.mk.inj h2
 obtain ⟨c2,c3⟩:=Prod.mk.inj c2
 refine ⟨_,_,_,h1,⟨c1,c2,c3⟩,h3,fun e he=>?_,fun k=>?_⟩
 ·have:=List.map_inj_left.mp h4 e (Array.mem_toList_iff.mpr he)
  simp only [Prod.mk.injEq] at this
  exact ⟨keyI e,by rw [this.2]; simp [intKind,Value.isInt],this.1⟩
 ·unfold findBy
  rw [← Array.find?_toList]
  rfl
theorem map_str {a:Addr} (h1:(hF w).get? a=some (atO (hF w) a)) (h2:((atO (hF w) a).cls,(atO (hF w) a).dict,(atO (hF w) a).slots)=(.type "dict",none,#[])) (h3:(atO (hF w) a).data=.dict (esO (atO (hF w) a)) (epO (atO (hF w) a)))
  (h4:(esA w a).map (fun e=>(e.hash,e.key))=(esA w a).map fun e=>(hashStr w (keyS e),.str (keyS e) (keyT e))):(hF w).MapOf (PySem.strKind prog w) a fun i=>((esA w a).find? fun e=>Value.isStrOf i e.key).map (·.val):=by
 obtain ⟨c1,c2⟩:=Prod.mk.inj h2
 obtain ⟨c2,c3⟩:=Prod.mk.inj c2
 refine ⟨_,_,_,h1,⟨c1,c2,c3⟩,h3,fun e he=>?_,fun k=>?_⟩
 ·have:=List.map_inj_left.mp h4 e (Array.mem_toList_iff.mpr he)
  simp only [Prod.mk.injEq] at this
  exact ⟨keyS e,by rw [this.2]; simp [PySem.strKind,Value.isStrOf],this.1⟩
 ·unfold findBy
  rw [← Array.find?_toList]
  rfl
theorem mapOf_keep {K:Type} [DecidableEq K] {knd:KeyKind prog w' K} {h h':Heap} {a:Addr} {f:K → Option Value} (m:h.MapOf knd a f) (k:Keep NoX h h'):h'.MapOf knd a f:=
 let ⟨o,es,ep,ho,r⟩:=m; ⟨o,es,ep,k a o ho id,r⟩
theorem get_one {K:Type} [DecidableEq K] {knd:KeyKind prog w' K} {a:Addr} {f:K → Option Value} {A:Around} {s:Shared} {k:K} {kv:Value} (hm:s.heap.MapOf knd a f) (ha:(a == sysModules)=false) (hk:knd.is k kv=true) {Q:Value → Shared → Prop} {E:Value → Shared → Prop}
  (h:Q ((f k).getD .none) { s with toks:=s.toks + 1 }):wpAny (model prog w') A (call (.builtin "dict.get") [.ref a,kv]) Q E s:=call_meetsIn F.slot_dict_get hm.typeIs F.entry_dict_get (F.args_dict_get_2 _ _) (meets_dict_get knd a hk ha) ⟨f,hm,h⟩
theorem get_two {K:Type} [DecidableEq K] {knd:KeyKind prog w' K} {a:Addr} {f:K → Option Value} {A:Around} {s:Shared} {k:K} {kv dv:Value} (hm:s.heap.MapOf knd a f) (ha:(a == sysModules)=false) (hk:knd.is k kv=true) {Q:Value → Shared → Prop} {E:Value → Shared → Prop}
  (h:Q ((f k).getD dv) { s with toks:=s.toks + 1 }):wpAny (model prog w') A (call (.builtin "dict.get") [.ref a,kv,dv]) Q E s:=call_meetsIn F.slot_dict_get hm.typeIs F.entry_dict_get (F.args_dict_get_3 _ _ _) (meets_dict_get_default knd a hk ha dv) ⟨f,hm,h⟩
theorem tab_item {K:Type} [DecidableEq K] {knd:KeyKind prog w' K} {a:Addr} {f:K → Option Value} {A:Around} {s:Shared} {k:K} {kv v:Value} {Q:Value → Shared → Prop} {E:Value → Shared → Prop} (hm:s.heap.MapOf knd a f) (hk:knd.is k kv=true) (hv:f k=some v)
  (h:Q v { s with toks:=s.toks + 1 }):SubscriptOn (model prog w') A (.ref a) kv Q E s:=
 ⟨"dict",_,F.slot_dict_getitem.lookup,hm.typeIs,wpAny_getItem_of hk hm hv h⟩
end
noncomputable def lookS (s:List Nat):List (List Nat × Int) → Option Int
 | []=>none
 | (k,v) :: r=>bif nmEq k s then some v else lookS s r
noncomputable def lookI (i:Int):List (Int × List Nat) → Option (List Nat)
 | []=>none
 | (k,v) :: r=>bif k == i then some v else lookI i r
theorem isStr_eq (s k:List Nat) (t:Tok):Value.isStrOf (mkS s) (.str (mkS k) t)=nmEq k s:=str_beq k s
theorem find_str:∀ (l:List DictEntry) (s:List Nat),l.map (fun e=>(e.key,e.val))=l.map (fun e=>(.str (mkS (nm (keyS e))) (keyT e),.int (valI e) (valT e))) →
  match lookS s (l.map fun e=>(nm (keyS e),valI e)) with
  | some i=>∃ t,(l.find? fun e=>Value.isStrOf (mkS s) e.key).map (·.val)=some (.int i t)
  | none=>(l.find? fun e=>Value.isStrOf (mkS s) e.key).map (·.val)=none
 | [],s,_=>rfl
 | e :: l,s,h=>by
  have he:=List.map_inj_left.mp h e (.head _)
  simp only [Prod.mk.injEq] at he
  have ih:=find_str l s (List.map_inj_left.mpr fun x hx=>List.map_inj_left.mp h x (.tail _ hx))
  rw [List.map_cons,lookS,List.find?_cons,he.1,isStr_eq]
  cases q:nmEq (nm (keyS e)) s with
  | true=>exact ⟨valT e,by simp only [Option.map_some]; rw [he.2]⟩
  | false=>exact ih
theorem isInt_self (i:Int) (t:Tok):Value.isInt i (.int i t)=true:=by simp [Value.isInt]
theorem find_int:∀ (l:List DictEntry) (i:Int),l.map (fun e=>(e.key,e.val))=l.map (fun e=>(.int (keyI e) (keyT e),.str (mkS (nm (valS' e))) (valT e))) →
  match lookI i (l.map fun e=>(keyI e,nm (valS' e))) with
  | some x=>∃ t,(l.find? fun e=>Value.isInt i e.key).map (·.val)=some (strV x t)
  | none=>(l.find? fun e=>Value.isInt i e.key).map (·.val)=none
 | [],i,_=>rfl
 | e :: l,i,h=>by
  have he:=List.map_inj_left.mp h e (.head _)
  simp only [Prod.mk.injEq] at he
  have ih:=find_int l i (List.map_inj_left.mpr fun x hx=>List.map_inj_left.mp h x (.tail _ hx))
  rw [List.map_cons,lookI,List.find?_cons,he.1]
  show (match (bif keyI e == i then some (nm (valS' e)) else lookI i (l.map fun e=>(keyI e,nm (valS' e)))) with | some x=>_ | none=>_)
  cases q:keyI e == i with
  | true=>
   have:Value.isInt i (.int (keyI e) (keyT e))=true:=by rw [beq_iff_eq.mp q]; simp [Value.isInt]
   rw [this]
   exact ⟨valT e,by simp only [Option.map_some]; rw [he.2]; rfl⟩
  | false=>
   have:Value.isInt i (.int (keyI e) (keyT e))=false:=by
    have:=beq_eq_false_iff_ne.mp q
    simp [Value.isInt,this]
   rw [this]
   exact ih
inductive TabKey (prog:Program) (w:World) (me:Value → Prop) (a:Addr) (kv:Value) (r:Option PV):Prop
 | mk {K:Type} {dK:DecidableEq K} {knd:PySem.KeyKind prog w K} {f:K → Option Value} {kk:K} (m:(hF w).MapOf knd a f) (i:knd.is kk kv=true) (n:r=none → f kk=none) (s:∀ x,r=some x → ∃ v,f kk=some v ∧ ∀ X h,Rep ((C2 w).as me) X h x v):TabKey prog w me a kv r
structure TabAns (prog:Program) (w:World) (me:Value → Prop) (t:Nm) (k:PV) (r:Option PV) (a:Addr):Prop where
 g:(C2 w).gm (mkS t)=some (.ref a)
 m:(a == sysModules)=false
 o:∃ ob,(hF w).get? a=some ob ∧ ob.cls=.type "dict" ∧ ob.dict=none
 k:∀ X h kv,Rep ((C2 w).as me) X h k kv → TabKey prog w me a kv r
theorem ex_tab (w:World) (s:List Nat):tabS s exD=lookS s ((esA w 167).map fun e=>(nm (keyS e),valI e)):=by kernel_rfl
theorem fl_tab (w:World) (i:Int):tabI i flD=lookI i ((esA w 88).map fun e=>(keyI e,nm (valS' e))):=by kernel_rfl
theorem ex_ans (prog:Program) (w:World) (me:Value → Prop) (s:List Nat):TabAns prog w me n_EXACT_TOKEN_TYPES (.str s) ((tabS s exD).map .int) 167:=by
 refine ⟨by kernel_rfl,by decide,⟨_,(by kernel_rfl:(hF w).get? 167=some (atO (hF w) 167)),by kernel_rfl,by kernel_rfl⟩,fun X h kv r=>?_⟩
 have r:StrV s kv:=r
 cases r with | mk t=>
 have this:=find_str (esA w 167) s (by kernel_rfl)
 rw [← ex_tab] at this
 refine .mk (kk:=mkS s) (map_str (prog:=prog) (w:=w) (a:=167) (by kernel_rfl) (by kernel_rfl) (by kernel_rfl) (by kernel_rfl)) (beq_self_eq_true (mkS s)) (fun e=>?_) fun x e=>?_
 ·cases q:tabS s exD with
  | none=>rw [q] at this; exact this
  | some i=>rw [q] at e; cases e
 ·cases q:tabS s exD with
  | none=>rw [q] at e; cases e
  | some i=>
   rw [q] at e this
   cases e
   obtain ⟨t,h⟩:=this
   exact ⟨_,h,fun X h=>show IntV i _ from .mk t⟩
theorem fl_ans (prog:Program) (w:World) (me:Value → Prop) (i:Int):TabAns prog w me n_COMPILER_FLAG_NAMES (.int i) ((tabI i flD).map .str) 88:=by
 refine ⟨by kernel_rfl,by decide,⟨_,(by kernel_rfl:(hF w).get? 88=some (atO (hF w) 88)),by kernel_rfl,by kernel_rfl⟩,fun X h kv r=>?_⟩
 have r:IntV i kv:=r
 cases r with | mk t=>
 have this:=find_int (esA w 88) i (by kernel_rfl)
 rw [← fl_tab] at this
 refine .mk (kk:=i) (map_int (prog:=prog) (w:=w) (w':=w) (a:=88) (by kernel_rfl) (by kernel_rfl) (by kernel_rfl) (by kernel_rfl)) (isInt_self i t) (fun e=>?_) fun x e=>?_
 ·cases q:tabI i flD with
  | none=>rw [q] at this; exact this
  | some i=>rw [q] at e; cases e
 ·cases q:tabI i flD with
  | none=>rw [q] at e; cases e
  | some x=>
   rw [q] at e this
   cases e
   obtain ⟨t,h⟩:=this
   exact ⟨_,h,fun X h=>show StrV x _ from .mk t⟩
noncomputable def b3K:List Int:=[0,1,2,4,7,8,9,10,11,12].flatMap fun k=>(List.range 26).map fun (l:Nat)=>(119808 + 52 * k + l:Int)
noncomputable def isV (x:List Nat):Option Value → Bool
 | some (.str s _)=>nmEq (nm s) x
 | _=>false
theorem mem_td {α:Type} {l:List α} {x:α} (k:Nat) (h:x∈l):x∈l.take k∨x∈l.drop k:=List.mem_append.mp (by rw [List.take_append_drop]; exact h)
theorem b3_a (w:World):(b3K.take 52).all (fun i=>isV [97+((i.toNat-119808)%52)] (((esA w 121).find? fun e=>Value.isInt i e.key).map (·.val)))=true:=by kernel_rfl
theorem b3_b (w:World):((b3K.drop 52).take 52).all (fun i=>isV [97+((i.toNat-119808)%52)] (((esA w 121).find? fun e=>Value.isInt i e.key).map (·.val)))=true:=by kernel_rfl
theorem b3_c (w:World):(((b3K.drop 52).drop 52).take 52).all (fun i=>isV [97+((i.toNat-119808)%52)] (((esA w 121).find? fun e=>Value.isInt i e.key).map (·.val)))=true:=by kernel_rfl
theorem b3_d (w:World):((((b3K.drop 52).drop 52).drop 52).take 52).all (fun i=>isV [97+((i.toNat-119808)%52)] (((esA w 121).find? fun e=>Value.isInt i e.key).map (·.val)))=true:=by kernel_rfl
theorem b3_e (w:World):((((b3K.drop 52).drop 52).drop 52).drop 52).all (fun i=>isV [97+((i.toNat-119808)%52)] (((esA w 121).find? fun e=>Value.isInt i e.key).map (·.val)))=true:=by kernel_rfl
theorem b3_ok (w:World) {i:Int} (h:i∈b3K):isV [97+((i.toNat-119808)%52)] (((esA w 121).find? fun e=>Value.isInt i e.key).map (·.val))=true:=by
 rcases mem_td 52 h with h | h
 ·exact List.all_eq_true.mp (b3_a w) i h
 rcases mem_td 52 h with h | h
 ·exact List.all_eq_true.mp (b3_b w) i h
 rcases mem_td 52 h with h | h
 ·exact List.all_eq_true.mp (b3_c w) i h
 rcases mem_td 52 h with h | h
 ·exact List.all_eq_true.mp (b3_d w) i h
 ·exact List.all_eq_true.mp (b3_e w) i h
theorem b3_low (w:World):((esA w 121).all fun e=>match e.key with | .int i _=>decide (128 ≤ i) | _=>false)=true:=by kernel_rfl
theorem b3_map (prog:Program) (w:World):(hF w).MapOf (intKind prog w) 121 fun i=>((esA w 121).find? fun e=>Value.isInt i e.key).map (·.val):=map_int (prog:=prog) (w:=w) (w':=w) (a:=121) (by kernel_rfl) (by kernel_rfl) (by kernel_rfl) (by kernel_rfl)
inductive TabB (i:Int):Option (List Nat) → Prop
 | low (h0:0 ≤ i) (h1:i < 128):TabB i none
 | mem (h:i ∈ b3K):TabB i (some [97 + ((i.toNat - 119808) % 52)])
theorem tabB_some {i:Int} {o:Option (List Nat)} (h:tabB i=some o):TabB i o:=by
 cases i with
 | negSucc n=>cases h
 | ofNat c=>
  refine bor (c:=decide (119808 ≤ c)) h (fun h1 h=>oif h fun h2 h=>band h2 fun h3 h4=>?_) fun h=>oif h fun h2 h=>?_
  ·cases h
   obtain ⟨k,hk,e⟩:=List.any_eq_true.mp h4
   have e:=eq_of_beq e
   refine .mem (List.mem_flatMap.mpr ⟨(k:Int),List.mem_map.mpr ⟨k,hk,rfl⟩,List.mem_map.mpr ⟨(c - 119808) % 52,List.mem_range.mpr (dec h3),?_⟩⟩)
   show (119808 + 52 * (k:Int) + (((c - 119808) % 52:Nat):Int))=(c:Int)
   have:=dec h1
   omega
  ·cases h
   exact .low (Int.natCast_nonneg c) (Int.ofNat_lt.mpr (dec h2))
section
variable (prog:Program) (w:World) (me:Value → Prop)
theorem b3_ans (i:Int) (o:Option (List Nat)) (h:tabB i=some o):TabAns prog w me n_b3_exceptions (.int i) (o.map .str) 121:=by
 refine ⟨by kernel_rfl,by decide,⟨_,(by kernel_rfl:(hF w).get? 121=some (atO (hF w) 121)),by kernel_rfl,by kernel_rfl⟩,fun X hh kv r=>?_⟩
 have r:IntV i kv:=r
 cases r with | mk t=>
 refine .mk (kk:=i) (b3_map prog w) (isInt_self i t) (fun e=>?_) fun x e=>?_
 ·cases tabB_some h with
  | mem hm=>cases e
  | low h0 h1=>
   show ((esA w 121).find? fun e=>Value.isInt i e.key).map (·.val)=none
   rw [List.find?_eq_none.mpr fun e he hi=>?_]
   ·rfl
   ·have:=List.all_eq_true.mp (b3_low w) e he
    obtain ⟨t,hk⟩:=Value.isInt_shape hi
    rw [hk] at this
    exact Int.not_le.mpr h1 (of_decide_eq_true this)
 ·cases tabB_some h with
  | low h0 h1=>cases e
  | mem hm=>
   cases e
   have:=b3_ok w hm
   show ∃ v,((esA w 121).find? fun e=>Value.isInt i e.key).map (·.val)=some v ∧ _
   generalize ((esA w 121).find? fun e=>Value.isInt i e.key).map (·.val)=ov at this
   cases ov with
   | none=>cases this
   | some v=>
    cases v with
    | str s t=>
     have e:=nmEq_of (show nmEq (nm s) [97 + ((i.toNat - 119808) % 52)]=true from this)
     exact ⟨_,rfl,fun X h=>show StrV _ _ from by rw [← e]; show StrV (nm s) (.str s t); rw [← mkS_nm s]; exact .mk t⟩
    | _=>cases this
theorem tab_ans:∀ t k r,T2.table t k=some r → ∃ a,TabAns prog w me t k r a:=by
 intro t k r h
 cases k with
 | int i=>
  refine bor (c:=nmEq t n_b3_exceptions) h (fun h1 h=>?_) fun h=>oif h fun h2 h=>?_
  ·rw [nmEq_of h1]
   cases q:tabB i with
   | none=>rw [q] at h; cases h
   | some o=>rw [q] at h; cases h; exact ⟨_,b3_ans prog w me i o q⟩
  ·rw [nmEq_of h2]; cases h; exact ⟨_,fl_ans prog w me i⟩
 | str s=>exact oif (c:=nmEq t n_EXACT_TOKEN_TYPES) h fun h1 h=>by rw [nmEq_of h1]; cases h; exact ⟨_,ex_ans prog w me s⟩
 | _=>cases h
end
section
variable (w:World) (me:Value → Prop)
theorem tab_ok:∀ t d x,T2.table t d=some (some x) → Glob ((C2 w).as me) t fun vt=>∀ A X s dv,At (TL w me) A X s → Rep ((C2 w).as me) X s.heap d dv → SubTr (TL w me) A vt dv s (ER ((C2 w).as me) X s (.v x)):=by
 intro t d x h
 obtain ⟨a,q⟩:=tab_ans lawP w me t d (some x) h
 refine .mk (.g q.g) fun A X s dv at_ r Q E k=>?_
 cases q.k _ _ _ r with | mk m i n s=>
 obtain ⟨v,m4,m5⟩:=s x rfl
 exact tab_item (mapOf_keep m at_.base) i m4 (k _ _ ⟨Ext.tok _ _ _,m5 _ _⟩)
theorem tget_ok:∀ t k r,T2.table t k=some r → Glob ((C2 w).as me) t fun vt=>∃ a,vt=.ref a ∧ TabGet (TL w me) k r a:=by
 intro t k r h
 obtain ⟨a,q⟩:=tab_ans lawP w me t k r h
 refine .mk (.g q.g) ⟨a,rfl,q.o,fun A X s kv at_ rk Q E k=>?_,fun A X s kv d dv at_ rk rd Q E k=>?_⟩
 ·cases q.k _ _ _ rk with | mk m i n s=>
  refine get_one (mapOf_keep m at_.base) q.m i (k _ _ ⟨Ext.tok _ _ _,?_⟩)
  cases r with
  | none=>rw [n rfl]; exact rfl
  | some x=>obtain ⟨v,m4,m5⟩:=s x rfl; rw [m4]; exact m5 _ _
 ·cases q.k _ _ _ rk with | mk m i n s=>
  refine get_two (mapOf_keep m at_.base) q.m i (k _ _ ⟨Ext.tok _ _ _,?_⟩)
  cases r with
  | none=>rw [n rfl]; exact rd
  | some x=>obtain ⟨v,m4,m5⟩:=s x rfl; rw [m4]; exact m5 _ _
end
noncomputable def seO (o:Obj):Array (Int × Value) × Nat × SetTable:=match o.data with
 | .set es ep t=>(es,ep,t)
 | _=>(#[],0,{ mask:=0,place:=#[],dummies:=#[],finger:=0,led:=false,moves:=0,plain:=true })
noncomputable abbrev stA (w:World):List (Int × Value):=(seO (atO (hF w) 110)).1.toList
noncomputable def ivV:Value → Int
 | .int i _=>i
 | _=>0
noncomputable def itV:Value → Tok
 | .int _ t=>t
 | _=>0
noncomputable def b1S:List Int:=[65024,65025,65026,65027,65028,65029,6150,65030,65031,65032,65033,6155,6156,6157,8203,8204,8205,65034,65035,65036,65037,65038,65039,173,847,8288,65279]
theorem b1_iff (k:Int):inB1 k=true ↔ k ∈ b1S:=by
 constructor
 ·intro h
  rcases Bool.or_eq_true _ _ ▸ h with h | h
  ·obtain ⟨x,hx,e⟩:=List.any_eq_true.mp h
   rw [beq_iff_eq] at e
   subst e
   exact List.contains_iff_mem.mp (List.all_eq_true.mp (by kernel_rfl:b1L.all (b1S.contains ·)=true) _ hx)
  ·rw [Bool.and_eq_true,decide_eq_true_eq,decide_eq_true_eq] at h
   obtain ⟨n,hn⟩:=Int.le.dest h.1
   subst hn
   exact List.contains_iff_mem.mp (List.all_eq_true.mp (by kernel_rfl:(List.range 16).all (fun n=>b1S.contains (65024 + (n:Int)))=true) n (List.mem_range.mpr (by omega)))
 ·exact fun h=>List.all_eq_true.mp (by kernel_rfl:b1S.all inB1=true) k h
theorem set_of (prog:Program) (w:World):(hF w).SetOf (intKind prog w) 110 inB1 27:=by
 have e:(stA w).map (fun e=>(e.1,e.2,e.2.scannable))=(stA w).map fun e=>(hashInt (ivV e.2),.int (ivV e.2) (itV e.2),true):=by kernel_rfl
 have el:∀ x ∈ stA w,x.1=hashInt (ivV x.2) ∧ x.2=.int (ivV x.2) (itV x.2) ∧ x.2.scannable=true:=fun x hx=>by
  have:=List.map_inj_left.mp e x hx
  simpa using this
 have e2:(stA w).map (fun e=>ivV e.2)=[65024,65025,65026,65027,65028,65029,6150,65030,65031,65032,65033,6155,6156,6157,8203,8204,8205,65034,65035,65036,65037,65038,65039,173,847,8288,65279]:=by kernel_rfl
 refine ⟨_,_,_,_,(by kernel_rfl:(hF w).get? 110=some (atO (hF w) 110)),⟨by kernel_rfl,by kernel_rfl,by kernel_rfl⟩,(by kernel_rfl:(atO (hF w) 110).data=.set (seO (atO (hF w) 110)).1 (seO (atO (hF w) 110)).2.1 (seO (atO (hF w) 110)).2.2),fun x hx=>?_,fun k=>?_,?_,by kernel_rfl,by kernel_rfl⟩
 rotate_right
 ·rw [show (seO (atO (hF w) 110)).1.size=27 by kernel_rfl]; decide
 ·obtain ⟨a,b,c⟩:=el x hx
  exact ⟨⟨ivV x.2,by rw [b]; simp [intKind,Value.isInt,ivV],a⟩,c⟩
 ·have h1:(∃ x ∈ stA w,(intKind prog w).is k x.2=true) ↔ k ∈ (stA w).map fun e=>ivV e.2:=by
   rw [List.mem_map]
   constructor
   ·rintro ⟨x,hx,hk⟩
    refine ⟨x,hx,?_⟩
    rw [(el x hx).2.1] at hk
    simpa [intKind,Value.isInt] using hk
   ·rintro ⟨x,hx,hk⟩
    refine ⟨x,hx,?_⟩
    rw [(el x hx).2.1]
    simp [intKind,Value.isInt,hk]
  rw [h1,e2]
  exact b1_iff k
theorem inSet_ok (w:World) (me:Value → Prop):∀ t d b,T2.inSet t d=some b → Glob ((C2 w).as me) t fun vt=>∀ A X s dv,At (TL w me) A X s → Rep ((C2 w).as me) X s.heap d dv → Tr (model lawP w) A (compareOp .In dv vt) s (VR s (Value.bool b)):=by
 intro t d b h
 cases d with
 | int i=>
  refine oif (c:=nmEq t n_b1_set) h fun h1 h=>?_
  cases h
  rw [nmEq_of h1]
  refine .mk (.g (by kernel_rfl:(C2 w).gm (mkS n_b1_set)=some (.ref 110))) fun A X s dv at_ r Q E k=>?_
  have r:IntV i dv:=r
  cases r with | mk t=>
  obtain ⟨o,es,ep,tb,ho,rest⟩:=set_of lawP w
  exact wpAny_inSet_of (knd:=intKind lawP w) (k:=i) (isInt_self i t) (by rfl) ⟨o,es,ep,tb,at_.base _ _ ho id,rest⟩ (k _ _ ⟨Ext.tok _ _ _,rfl⟩)
 | _=>cases h
noncomputable def vD:Df:=dfI 6
noncomputable def hdV:List S → S
 | s :: _=>s
 | []=>.pass default
noncomputable def vB:List S:=vD.body
noncomputable def wlB:List S:=match hdV (vB.drop 2) with
 | .whl _ b _ _=>b
 | _=>[]
noncomputable def wlT:E:=match hdV (vB.drop 2) with
 | .whl t _ _ _=>t
 | _=>.const .none 0 default
noncomputable abbrev vG:Gl:=glOf (noIcall T2) noCall noCall vD
noncomputable abbrev sv (a:Nat) (l:List PV) (b v:Int):Sg:=[(nm "iterator",.iter (some a) l),(nm "b",.fz (.int b)),(nm "val",.fz (.int v))]
noncomputable abbrev vL:Nat → Sg → Rs:=whileLoop (fun σ=>tr vG wlT σ (ev vG wlT σ)) (exs vG wlB) (exs vG [])
theorem v_01 (a:Nat) (c:Int) (r:List PV):exs vG vB [(nm "iterator",.iter (some a) (.int c :: r))]=thenS (vL 200 (sv a r c (Builtin.bitAnd c 63))) (exs vG (vB.drop 3)):=by kernel_rfl
theorem v_t (a:Nat) (l:List PV) (b v:Int):tr vG wlT (sv a l b v) (ev vG wlT (sv a l b v))=some (Builtin.bitAnd b 64 != 0):=by kernel_rfl
theorem v_w (a:Nat) (c:Int) (r:List PV) (b v:Int):exs vG wlB (sv a (.int c :: r) b v)=thenS (nextR (((bif decide (v.natAbs < 2 ^ 64) then some (v * 64) else none).map PV.int).map fun d=>[(nm "iterator",.iter (some a) (.int c :: r)),(nm "b",.fz (.int b)),(nm "val",.fz d)])) (exs vG (wlB.drop 1)):=by kernel_rfl
theorem v_w12 (a:Nat) (c:Int) (r:List PV) (b v:Int):exs vG (wlB.drop 1) (sv a (.int c :: r) b v)=some (.next,sv a r c (Builtin.bitOr v (Builtin.bitAnd c 63))):=by kernel_rfl
theorem v_3 (a:Nat) (l:List PV) (b v:Int):exs vG (vB.drop 3) (sv a l b v)=some (.ret (.int v),sv a l b v):=by kernel_rfl
theorem v_loop (a:Nat):∀ (n:Nat) (val b:Int) (l r:List PV) (d:PV),vGo n val b l=some (d,r) → ∃ i b',d=.int i ∧ vL n (sv a l b val)=some (.next,sv a r b' i)
 | 0,_,_,_,_,_,h=>by cases h
 | n + 1,val,b,l,r,d,h=>by
  have h:(bif Builtin.bitAnd b 64 == 0 then some (PV.int val,l) else match (generalizing:=false) l with
   | .int c :: r=>bif decide (val.natAbs < 2 ^ 64) then vGo n (Builtin.bitOr (val * 64) (Builtin.bitAnd c 63)) c r else none
   | _=>none)=some (d,r):=h
  show ∃ i b',d=.int i ∧ (match tr vG wlT (sv a l b val) (ev vG wlT (sv a l b val)) with
   | some false=>exs vG [] (sv a l b val)
   | some true=>match exs vG wlB (sv a l b val) with
    | some (.next,σ)=>vL n σ
    | some (.brk,σ)=>some (.next,σ)
    | x=>x
   | none=>none)=some (.next,sv a r b' i)
  rw [v_t]
  cases q:Builtin.bitAnd b 64 == 0 with
  | true=>
   rw [q] at h
   cases h
   rw [show (Builtin.bitAnd b 64 != 0)=false by rw [bne,q]; rfl]
   exact ⟨val,b,rfl,rfl⟩
  | false=>
   rw [q] at h
   rw [show (Builtin.bitAnd b 64 != 0)=true by rw [bne,q]; rfl]
   cases l with
   | nil=>cases h
   | cons x r'=>cases x with
    | int c=>
     refine oif h fun q2 h=>?_
     obtain ⟨i,b',e1,e2⟩:=v_loop a n _ _ _ _ _ h
     refine ⟨i,b',e1,?_⟩
     have body:exs vG wlB (sv a (.int c :: r') b val)=some (.next,sv a r' c (Builtin.bitOr (val * 64) (Builtin.bitAnd c 63))):=by
      rw [v_w,q2]
      exact v_w12 a c r' b (val * 64)
     rw [body]
     exact e2
    | _=>cases h
section
variable (w:World) (me:Value → Prop)
theorem icall_ok:∀ f xs d r,T2.icall f xs=some (d,r) → IcOk ((C2 w).as me) T2 f xs d r:=fun f xs d r h=>oif (c:=nmEq f n_varint) h fun hf h=>by
 rw [nmEq_of hf]
 cases xs with
 | nil=>cases h
 | cons x l=>cases x with
  | int c=>
   have h:vGo 200 (Builtin.bitAnd c 63) c l=some (d,r):=h
   obtain ⟨i,_,e,_⟩:=v_loop 0 200 _ _ _ _ _ h
   subst e
   refine .mk (D:=vD) (fA:=102) (p:=nm "iterator") rfl (by kernel_rfl) (by kernel_rfl) (fit_6 w me) fun a=>?_
   obtain ⟨i',b',e1,e2⟩:=v_loop a 200 _ _ _ _ _ h
   cases e1
   refine ⟨sv a r b' i,?_,by kernel_rfl⟩
   show exs vG vB _=_
   rw [v_01,e2]
   exact v_3 a r b' i
  | _=>cases h
theorem leaf_ok (D:Df):GlOk (TL w me) (glOf (noIcall T2) noCall noCall D):=
 {gns:=Heap.Ns.of_isNs (by kernel_rfl)
  bns:=Heap.Ns.of_isNs (by kernel_rfl)
  const:=const_ok w me
  tab:=tab_ok w me
  inSet:=inSet_ok w me
  cattr:=cattr_ok w me
  fld:=fld_ok w me
  sto:=sto_ok w me
  tget:=tget_ok w me
  bud:=fun A h=>⟨h.handled,h.guards,by have:=h.units; omega⟩
  bname:=bname_ok w me
  bval:=bval_ok w me
  icall:=fun zz zz zz zz h=>by cases h
  call:=fun zz zz zz h=>by cases h
  meth:=fun zz zz zz h=>by cases h }
theorem tx_ok:TxOk lawP w (C2 w) T2 where
 hlim:=⟨_,Heap.Ns.of_isNs (by kernel_rfl),by kernel_rfl⟩
 leaf:=leaf_ok w
 icall:=icall_ok w
 dfs:=dfs_ok w
 cls:=cls_ok w
 meths me:=meths_ok w me lawP
end
theorem well_ints {P:Params} {C:Cx} {X:Addr → Prop} {h:Heap}:∀ {xs:List Int} {vs:List Value},WellAll P h vs (xs.map WData.int) → Reps C X h (xs.map .int) vs
 | [],vs,r=>by cases r; exact rfl
 | x :: xs,vs,r=>by
  cases r with
  | cons h1 h2=>cases h1 with
   | int i t=>exact ⟨show IntV x _ from .mk t,well_ints h2⟩
theorem ofPys_ints:∀ xs:List Int,ofPys (xs.map PyData.int)=xs.map WData.int
 | []=>by simp [ofPys]
 | x :: r=>by simp [ofPys,ofPy,ofPys_ints r]
set_option tactic.hygienic true in
theorem walk:WalkO Mine.G.qv Mine.G.looseV (XL Mine.G.qv []) Mine.G.YPv PySem.Challenge.rw_sr0089_02.row.toRowW Mine.G.lawD [] fun f vs=>PySem.call f vs:=by
 intro w s₀ s₁ mg mb G Y a o pm cd doc dV kV ho hd hcd hD hmg hg args vals as hpre hlay hrd hwl hlo
 wrow_args hpre hlay hrd hwl hlo
 rename_i xs _ _ _ _ _ _ _ l _ _ _ _ w1 _ _ _ hlen _
 have k:Keep NoX (hF w) s₁.heap:=fun b o e zz=>Y b o e
 have gns:(hF w).Ns 3 (C2 w).gm:=Heap.Ns.of_isNs (by kernel_rfl)
 have hm:mg Mine.G.lawD.name=(C2 w).gm (mkS n_law):=Ns.uniq G.T.g (Ns.keepX gns k id) _
 have e285:(C2 w).gm (mkS n_law)=some (.ref 285):=by kernel_rfl
 rw [hm,e285] at hmg
 cases hmg
 have law:(oracle T2 3).call n_law [.list (xs.map .int)]=some (.bool true):=law_true 0 xs (by omega)
 cases (oracle_ok (tx_ok w) 3 (C2 w).me vD).call n_law [.list (xs.map .int)] (.bool true) law with | @mk vf gv fo=>
 have h1:vf=.ref 285:=by
  cases gv with
  | g h=>exact Option.some.inj (h.symm.trans e285)
  | b n h=>exact absurd (e285.symm.trans n) nofun
 subst h1
 have hw:ofPy (PyData.list (xs.map PyData.int))=.list (xs.map .int):=by simp only [ofPy,ofPys_ints]
 rw [hw] at w1
 have rep:Reps ((C2 w).as (C2 w).me) NoX s₁.heap [.list (xs.map .int)] [.ref l]:=by
  cases w1 with
  | list hget hall=>exact ⟨show LV _ _ _ _ _ from .mk id hget (well_ints hall),rfl⟩
 have pb:PB 3 callerA:=⟨rfl,rfl,by decide +kernel,by decide +kernel⟩
 refine fo.run callerA NoX s₁ [.ref l] ⟨pb,k,nofun,nofun⟩ rep _ _ fun v s' q=>?_
 have q2:v=.bool true:=q.r
 subst q2
 refine ⟨.inl ⟨_,.bool true,[],rfl,fun zz=>rfl,.bool true,?_,fun zz=>⟨.nil,fun zz h=>by cases h⟩⟩,.of_keep fun b o e=>q.x.keep b o e id,q.x.os,.of_eq (q.x.gens.trans hg)⟩
 wrow_post
end Mine.V
theorem PySem.Challenge.cw_sr0089_02_holds : PySem.Challenge.rw_sr0089_02.Holds :=
  Mine.G.holds_of Mine.V.walk
