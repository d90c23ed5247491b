import PyProof.Rows.All
import Wide.All
import OpenK.AllK
import Wide.FinOn
import PyProof.ListStr
import PyProof.AutoListH
import PyProof.MeetsSeq
import PyProof.AutoSeq1
import PyProof.ListOps
import PyProof.FactsAll.list_4
import PyProof.ListTruth
import PyProof.PureStr
import PyProof.FactsAll.str_6
import PyProof.AutoRange
import PyProof.MeetsDictList
import PyProof.DictIter
import PyProof.DictKinds
import PyProof.FactsAll.dict_3
import PyProof.FactsAll.dict_keyiterator
import PyProof.Rows.SortStrRead
import PyProof.Rows.StrGen4
import PyProof.Rows.StrJoin2
import PyProof.StrReplace2
import PyProof.SumAny
import PyProof.WalkInts
import PyProof.SliceList
import PyProof.AutoIntG4
import PyProof.AutoIntG6
import PyProof.AutoIntG7
import PyProof.WalksMore
import PyProof.Comp
import PyProof.NeKinds
import PyProof.EqAt
import PyProof.Rows.Nodes
import PySem.Challenge.RW_qu0030_01
set_option Elab.async false
set_option maxRecDepth 100000
set_option maxHeartbeats 0
set_option linter.unusedVariables false
set_option genInjectivity false
set_option genSizeOf false
section
open PySem PySem.W PySem.W.X
section
namespace Mine
noncomputable abbrev PG:Program:=PySem.Challenge.pw_qu0030_01
noncomputable abbrev Led:=List (Addr × Obj)
structure Obs where
  c:Code
  dw:Nat
  du:Nat
  rd:Led
  N:Nat
  T:Nat
inductive Rs where
  | next | brk | cont
  | ret (v:Value)
  | err (e:Value)
noncomputable def Rs.res:Rs → Result
  | .next=>.ok .next
  | .brk=>.ok .brk
  | .cont=>.ok .cont
  | .ret v=>.ok (.ret v)
  | .err e=>.error e
structure Pst where
  f:Rs
  wr:List Obj
  nw:Led
  N:Nat
  T:Nat
structure Orc where
  ix:List Nat
  q:Pst
inductive Ans where
  | cut (e:Obs) (o:Orc)
  | stk (p:Pos) (below:List (Code × Pos))
inductive Kn where
  | base
  | ret (c:Code) (k:Result → Sem Fin) (κ:Kn)
structure Out where
  r:Except Value Fin
  L:Led
  N:Nat
  T:Nat
  as:List Addr
  bs:List Addr
  oa:List Obs
  ob:List Obs
structure Cf where
  D:Code → Sem Fin
  S:Setting
  top:Nat → Option Obj
  q:Code → Bool
  wt:Code → Nat
  un:Code → Nat
noncomputable def getK {α:Type} (no:α) (k:Addr → Obj → α):Led → Nat → α
  | [],_=>no
  | p :: _,0=>k p.1 p.2
  | _ :: r,j + 1=>getK no k r j
noncomputable def updK {α:Type} (f:Obj → Obj) (no:α):Led → Nat → (Addr → Led → α) → α
  | [],_,_=>no
  | p :: r,0,k=>match (f p.2).isFreed with
    | true=>no
    | false=>k p.1 ((p.1,f p.2) :: r)
  | p :: r,j + 1,k=>updK f no r j fun a r'=>k a (p :: r')
noncomputable def snocK {α:Type} (p:Addr × Obj):Led → (Led → α) → α
  | [],k=>k [p]
  | q :: r,k=>snocK p r fun r'=>k (q :: r')
noncomputable def setK {α:Type} (o:Obj) (no:α):Led → Nat → (Led → α) → α
  | [],_,_=>no
  | p :: r,0,k=>match o.isFreed with
    | true=>no
    | false=>k ((p.1,o) :: r)
  | p :: r,j + 1,k=>setK o no r j fun r'=>k (p :: r')
noncomputable def setsK {α:Type} (no:α):List Nat → List Obj → Led → (Led → α) → α
  | [],[],L,k=>k L
  | j :: js,o :: os,L,k=>setK o no L j fun L'=>setsK no js os L' k
  | _,_,_,_=>no
noncomputable def snocsK {α:Type}:Led → Led → (Led → α) → α
  | [],L,k=>k L
  | p :: r,L,k=>snocK p L fun L'=>snocsK r L' k
noncomputable def rdK:List Nat → Led → Led
  | [],_=>[]
  | j :: js,L=>getK [] (fun a o=>[(a,o)]) L j++rdK js L
noncomputable def wtK (C:Cf):Kn → Nat
  | .base=>0
  | .ret c _ κ=>C.wt c + wtK C κ
noncomputable def unK (C:Cf):Kn → Nat
  | .base=>0
  | .ret c _ κ=>C.un c + unK C κ
noncomputable abbrev RunTy:=List Nat → List Nat → List Ans → Code → Kn → Sem Fin → Led → Nat → Nat → List Addr → List Addr → List Obs → List Obs → Option Out
noncomputable def stepR (C:Cf) (ih:RunTy):RunTy:=fun mem ctl os c κ t L N T as bs oa ob=>match t with
  | .pure fin=>match κ with
    | .base=>match fin with
      | .done f=>match os with
        | []=>some ⟨.ok (.done f),L,N,T,as,bs,oa,ob⟩
        | _ :: _=>none
      | .again c'=>match C.q c' with
        | false=>none
        | true=>match os with
          | []=>some ⟨.ok (.again c'),L,N,T,as,bs,oa,ob⟩
          | _ :: _=>none
    | .ret c₁ k κ'=>match fin with
      | .done f=>ih mem ctl os c₁ κ' (k (.ok f)) L N T as bs oa ob
      | .again c'=>match C.q c' with
        | false=>none
        | true=>match ctl with
          | []=>none
          | 0 :: ctl=>ih mem ctl os c' (.ret c₁ k κ') (C.D c') L N T as bs oa ob
          | _ :: ctl=>match os with
            | []=>none
            | .stk _ _ :: _=>none
            | .cut e o :: os=>setsK none o.ix o.q.wr L fun L₁=>snocsK o.q.nw L₁ fun L₂=>
              ih mem ctl os c₁ κ' (k o.q.f.res) L₂ o.q.N o.q.T as bs (⟨c',C.wt c₁ + wtK C κ',C.un c₁ + unK C κ',rdK o.ix L,N,T⟩ :: oa) (e :: ob)
  | .raise e=>match κ with
    | .base=>match os with
      | []=>some ⟨.error e,L,N,T,as,bs,oa,ob⟩
      | _ :: _=>none
    | .ret c₁ k κ'=>ih mem ctl os c₁ κ' (k (.error e)) L N T as bs oa ob
  | .rule _ k=>ih mem ctl os c κ (k ()) L N T as bs oa ob
  | .at _ k=>ih mem ctl os c κ (k ()) L N T as bs oa ob
  | .point _ k=>ih mem ctl os c κ (k ()) L N T as bs oa ob
  | .ask k=>ih mem ctl os c κ (k C.S) L N T as bs oa ob
  | .load a _ k=>match mem with
    | []=>none
    | 0 :: mem=>match C.top a with
      | some o=>ih mem ctl os c κ (k o) L N T as bs oa ob
      | none=>none
    | (j + 1) :: mem=>getK none (fun b o=>ih mem ctl os c κ (k o) L N T (a :: as) (b :: bs) oa ob) L j
  | .loadIfAlive a k=>match mem with
    | []=>none
    | 0 :: mem=>match C.top a with
      | some o=>ih mem ctl os c κ (k (some o)) L N T as bs oa ob
      | none=>none
    | (j + 1) :: mem=>getK none (fun b o=>ih mem ctl os c κ (k (some o)) L N T (a :: as) (b :: bs) oa ob) L j
  | .update a _ f k=>match mem with
    | []=>none
    | 0 :: _=>none
    | (j + 1) :: mem=>updK f none L j fun b L'=>ih mem ctl os c κ (k ()) L' N T (a :: as) (b :: bs) oa ob
  | .alloc o k=>match o.isFreed with
    | true=>none
    | false=>snocK (N,o) L fun L'=>ih mem ctl os c κ (k N) L' (N + 1) T as bs oa ob
  | .fresh k=>ih mem ctl os c κ (k T) L N (T + 1) as bs oa ob
  | .call c' hd _ _ k=>match hd with
    | some _=>none
    | none=>match ctl with
      | []=>none
      | 0 :: ctl=>ih mem ctl os c' (.ret c k κ) (C.D c') L N T as bs oa ob
      | _ :: ctl=>match os with
        | []=>none
        | .stk _ _ :: _=>none
        | .cut e o :: os=>setsK none o.ix o.q.wr L fun L₁=>snocsK o.q.nw L₁ fun L₂=>
          ih mem ctl os c κ (k o.q.f.res) L₂ o.q.N o.q.T as bs (⟨c',C.wt c + wtK C κ,C.un c + unK C κ,rdK o.ix L,N,T⟩ :: oa) (e :: ob)
  | .handled own k=>match own with
    | true=>none
    | false=>ih mem ctl os c κ (k none) L N T as bs oa ob
  | .stack k=>match os with
    | []=>none
    | .cut _ _ :: _=>none
    | .stk p below :: os=>ih mem ctl os c κ (k ((c,p) :: below)) L N T as bs oa ob
  | _=>none
noncomputable def run (C:Cf):Nat → RunTy
  | 0=>fun _ _ _ _ _ _ _ _ _ _ _ _ _=>none
  | n + 1=>stepR C (run C n)
noncomputable def exps (as:List Addr):List Nat → List Addr → List Addr
  | [],acc=>acc
  | 0 :: m,acc=>exps as m acc
  | (j + 1) :: m,acc=>exps as m (as.getD j 0 :: acc)
theorem getK_eq {α:Type} (no:α) (k:Addr → Obj → α):∀ (L:Led) (j:Nat),getK no k L j = match L[j]? with | some p=>k p.1 p.2 | none=>no
  | [],j=>by simp [getK]
  | p :: r,0=>by simp [getK]
  | p :: r,j + 1=>by rw [getK,getK_eq no k r j]; simp
theorem updK_eq {α:Type} (f:Obj → Obj) (no:α):∀ (L:Led) (j:Nat) (k:Addr → Led → α),updK f no L j k = match L[j]? with | some p=>(match (f p.2).isFreed with | true=>no | false=>k p.1 (L.set j (p.1,f p.2))) | none=>no
  | [],j,k=>by simp [updK]
  | p :: r,0,k=>by simp [updK]
  | p :: r,j + 1,k=>by rw [updK,updK_eq f no r j]; simp
theorem snocK_eq {α:Type} (p:Addr × Obj):∀ (L:Led) (k:Led → α),snocK p L k = k (L++[p])
  | [],k=>rfl
  | q :: r,k=>by rw [snocK,snocK_eq p r]; rfl
theorem setK_eq {α:Type} (o:Obj) (no:α):∀ (L:Led) (j:Nat) (k:Led → α),setK o no L j k = match L[j]? with | some p=>(match o.isFreed with | true=>no | false=>k (L.set j (p.1,o))) | none=>no
  | [],j,k=>by simp [setK]
  | p :: r,0,k=>by simp [setK]
  | p :: r,j + 1,k=>by rw [setK,setK_eq o no r j]; simp
theorem snocsK_eq {α:Type}:∀ (M L:Led) (k:Led → α),snocsK M L k = k (L++M)
  | [],L,k=>by simp [snocsK]
  | p :: r,L,k=>by rw [snocsK,snocK_eq,snocsK_eq r]; simp
end Mine
end
section
namespace Mine
noncomputable def setsL:List Nat → List Obj → Led → Option Led
  | [],[],L=>some L
  | j :: js,o :: os,L=>match L[j]? with
    | some p=>match o.isFreed with
      | true=>none
      | false=>setsL js os (L.set j (p.1,o))
    | none=>none
  | _,_,_=>none
theorem setsK_eq {α:Type} (no:α):∀ (js:List Nat) (os:List Obj) (L:Led) (k:Led → α),setsK no js os L k = match setsL js os L with | some L'=>k L' | none=>no
  | [],[],L,k=>rfl
  | j :: js,o :: os,L,k=>by
    rw [setsK,setK_eq,setsL]
    cases L[j]? with
    | none=>rfl
    | some p=>cases o.isFreed with
      | true=>rfl
      | false=>exact setsK_eq no js os _ k
  | [],_ :: _,_,_=>rfl
  | _ :: _,[],_,_=>rfl
theorem set_addrs (L:Led) (j:Nat) (p:Addr × Obj) (o:Obj) (h:L[j]? = some p):(L.set j (p.1,o)).map (·.1) = L.map (·.1):=by
  apply List.ext_getElem?
  intro i
  simp only [List.getElem?_map,List.getElem?_set]
  by_cases e:j = i
  · subst e
    obtain ⟨h1,h2⟩:=List.getElem?_eq_some_iff.mp h
    simp [h1,h2]
  · simp [e]
theorem setsL_addrs:∀ {js:List Nat} {os:List Obj} {L L':Led},setsL js os L = some L' → L'.map (·.1) = L.map (·.1)
  | [],[],L,L',h=>by cases h; rfl
  | j :: js,o :: os,L,L',h=>by
    rw [setsL] at h
    cases e:L[j]? with
    | none=>rw [e] at h; cases h
    | some p=>
      rw [e] at h
      cases f:o.isFreed with
      | true=>rw [f] at h; cases h
      | false=>rw [f] at h; rw [setsL_addrs h,set_addrs L j p o e]
  | [],_ :: _,_,_,h=>by cases h
  | _ :: _,[],_,_,h=>by cases h
theorem rdK_cons (j:Nat) (js:List Nat) (L:Led) (p:Addr × Obj) (h:L[j]? = some p):rdK (j :: js) L = p :: rdK js L:=by
  rw [rdK,getK_eq,h]; rfl
theorem rdK_addrs (js:List Nat) (L L':Led) (h:L'.map (·.1) = L.map (·.1)):(rdK js L').map (·.1) = (rdK js L).map (·.1):=by
  induction js with
  | nil=>rfl
  | cons j js ih=>
    rw [rdK,rdK,getK_eq,getK_eq,List.map_append,List.map_append,ih]
    have e:(L'[j]?).map (·.1) = (L[j]?).map (·.1):=by
      rw [← List.getElem?_map,← List.getElem?_map,h]
    cases a:L'[j]? <;> cases b:L[j]? <;> rw [a,b] at e <;> simp at e ⊢
    exact e
theorem rdK_sub (js:List Nat) (L:Led):∀ p ∈ rdK js L,p ∈ L:=by
  induction js with
  | nil=>intro p hp; cases hp
  | cons j js ih=>
    intro p hp
    rw [rdK,getK_eq] at hp
    rcases List.mem_append.mp hp with q | q
    · cases e:L[j]? with
      | none=>rw [e] at q; cases q
      | some x=>
        rw [e] at q
        have:p = x:=by simpa using q
        rw [this]; exact List.mem_of_getElem? e
    · exact ih p q
theorem setsL_mem:∀ {js:List Nat} {os:List Obj} {L L':Led},setsL js os L = some L' → (L.map (·.1)).Nodup →
    ∀ p ∈ L',p ∈ ((rdK js L).map (·.1)).zip os ∨ (p ∈ L ∧ p.1 ∉ (rdK js L).map (·.1))
  | [],[],L,L',h,_,p,hp=>by cases h; exact .inr ⟨hp,by simp [rdK]⟩
  | j :: js,o :: os,L,L',h,nd,p,hp=>by
    rw [setsL] at h
    cases e:L[j]? with
    | none=>rw [e] at h; cases h
    | some x=>
      rw [e] at h
      cases f:o.isFreed with
      | true=>rw [f] at h; cases h
      | false=>
        rw [f] at h
        have ha:=set_addrs L j x o e
        have r:=setsL_mem h (by rw [ha]; exact nd) p hp
        rw [rdK_addrs js L _ ha] at r
        rw [rdK_cons j js L x e,List.map_cons,List.zip_cons_cons]
        rcases r with q | ⟨q,n⟩
        · exact .inl (.tail _ q)
        · obtain ⟨i,hi⟩:=List.getElem?_of_mem q
          rw [List.getElem?_set] at hi
          by_cases ji:j = i
          · rw [if_pos ji] at hi
            split at hi
            · cases hi; exact .inl (.head _)
            · cases hi
          · rw [if_neg ji] at hi
            refine .inr ⟨List.mem_of_getElem? hi,?_⟩
            rw [List.mem_cons]
            rintro (z | z)
            · have h1:(L.map (·.1))[j]? = some x.1:=by rw [List.getElem?_map,e]; rfl
              have h2:(L.map (·.1))[i]? = some x.1:=by rw [List.getElem?_map,hi,← z]; rfl
              obtain ⟨l1,e1⟩:=List.getElem?_eq_some_iff.mp h1
              obtain ⟨l2,e2⟩:=List.getElem?_eq_some_iff.mp h2
              rcases Nat.lt_or_gt_of_ne ji with g | g
              · exact List.pairwise_iff_getElem.mp nd j i l1 l2 g (e1.trans e2.symm)
              · exact List.pairwise_iff_getElem.mp nd i j l2 l1 g (e2.trans e1.symm)
            · exact n z
  | [],_ :: _,_,_,h,_,_,_=>by cases h
  | _ :: _,[],_,_,h,_,_,_=>by cases h
structure Cf.Ok (C:Cf) (prog:Program) (w:World):Prop where
  D:C.D = denote table
  S:C.S = ⟨prog,w.params⟩
  q:C.q = Code.quiet
  wt:C.wt = Code.weight
  un:C.un = Code.cUnits
noncomputable def TopIn (C:Cf) (h:Heap):Prop:=∀ a o,C.top a = some o → h.get? a = some o
noncomputable def HasL (h:Heap) (L:Led):Prop:=∀ p ∈ L,h.get? p.1 = some p.2
structure Rep (C:Cf) (S:List Addr) (h₀:Heap) (L:Led) (h:Heap):Prop where
  top:TopIn C h
  has:HasL h L
  nodup:(L.map (·.1)).Nodup
  off:∀ p ∈ L,C.top p.1 = none
  keep:∀ b o,h₀.get? b = some o → b ∉ S → h.get? b = some o
  inS:∀ p ∈ L,p.1 ∈ S ∨ h₀.objs.size ≤ p.1
  grow:h₀.objs.size ≤ h.objs.size
structure Aft (s s':Shared) (rd:Led) (o:Pst):Prop where
  gens:s'.gens = s.gens
  drawn:s'.drawn = s.drawn
  os:s'.os = s.os
  toks:s'.toks = o.T
  size:s'.heap.objs.size = o.N
  grow:s.heap.objs.size ≤ o.N
  wr:∀ p ∈ (rd.map (·.1)).zip o.wr,s'.heap.get? p.1 = some p.2
  nw:∀ p ∈ o.nw,s'.heap.get? p.1 = some p.2 ∧ s.heap.objs.size ≤ p.1
  nd:(o.nw.map (·.1)).Nodup
  keep:∀ b x,s.heap.get? b = some x → b ∉ rd.map (·.1) → s'.heap.get? b = some x
noncomputable def Con (prog:Program) (w:World) (C:Cf) (d u:Nat) (c:Code) (rd:Led) (N T:Nat) {Z:Type} (o:Z → Pst):Prop:=
  ∀ (A:Around) (s:Shared),A.handled = none → A.depth ≤ d → A.units ≤ u → TopIn C s.heap → HasL s.heap rd → (rd.map (·.1)).Nodup → (∀ p ∈ rd,C.top p.1 = none) →
    s.heap.objs.size = N → s.toks = T → codeAny (model prog w) A c (fun r s'=>∃ z,r = (o z).f.res ∧ Aft s s' rd (o z)) s
inductive Fam:Type 1 where
  | fin (r:Except Value Fin) (L:Led) (N T:Nat)
  | ask (Z:Type) (e:Obs) (ix:List Nat) (o:Z → Pst) (next:Z → Fam)
  | stk (next:Pos → List (Code × Pos) → Fam)
noncomputable def Fam.Fits:Fam → (List Ans → Option Out) → Prop
  | .fin r L N T,g=>∃ as ob,g [] = some ⟨r,L,N,T,as,as,ob,ob⟩
  | .ask Z e ix o next,g=>Nonempty Z ∧ ∀ z,(next z).Fits fun os=>g (.cut e ⟨ix,o z⟩ :: os)
  | .stk next,g=>∀ p below,(next p below).Fits fun os=>g (.stk p below :: os)
theorem fits_ex:∀ {F:Fam} {g:List Ans → Option Out},F.Fits g → ∃ os out,g os = some out ∧ out.as = out.bs ∧ out.oa = out.ob
  | .fin _ _ _ _,_,⟨_,_,h⟩=>⟨_,_,h,rfl,rfl⟩
  | .ask _ _ _ _ _,_,⟨⟨z⟩,h⟩=>by
    obtain ⟨os,out,r⟩:=fits_ex (h z)
    exact ⟨_,out,r⟩
  | .stk _,_,h=>by
    obtain ⟨os,out,r⟩:=fits_ex (h default [])
    exact ⟨_,out,r⟩
theorem fits_none {F:Fam} (h:F.Fits fun _=>none):False:=by
  obtain ⟨_,_,e,_⟩:=fits_ex h
  cases e
theorem fits_mono {F:Fam} {g g':List Ans → Option Out} (h:F.Fits g) (e:∀ os,g os = g' os):F.Fits g':=by
  have:g = g':=funext e
  rw [← this]; exact h
noncomputable def Sfx (as bs:List Addr) (oa ob:List Obs) (out:Out):Prop:=
  ∃ x y u v,out.as = x++as ∧ out.bs = y++bs ∧ x.length = y.length ∧ out.oa = u++oa ∧ out.ob = v++ob ∧ u.length = v.length
theorem Sfx.refl {as bs:List Addr} {oa ob:List Obs} {r L N T}:Sfx as bs oa ob ⟨r,L,N,T,as,bs,oa,ob⟩:=⟨[],[],[],[],rfl,rfl,rfl,rfl,rfl,rfl⟩
theorem Sfx.mem {as bs:List Addr} {oa ob:List Obs} {out:Out} {a b:Addr} (h:Sfx (a :: as) (b :: bs) oa ob out):Sfx as bs oa ob out:=by
  obtain ⟨x,y,u,v,h1,h2,h3,h4,h5,h6⟩:=h
  exact ⟨x++[a],y++[b],u,v,by simp [h1],by simp [h2],by simp [h3],h4,h5,h6⟩
theorem Sfx.obs {as bs:List Addr} {oa ob:List Obs} {out:Out} {a b:Obs} (h:Sfx as bs (a :: oa) (b :: ob) out):Sfx as bs oa ob out:=by
  obtain ⟨x,y,u,v,h1,h2,h3,h4,h5,h6⟩:=h
  exact ⟨x,y,u++[a],v++[b],h1,h2,h3,by simp [h4],by simp [h5],by simp [h6]⟩
theorem Sfx.memEq {as bs:List Addr} {oa ob:List Obs} {out:Out} {a b:Addr} (h:Sfx (a :: as) (b :: bs) oa ob out) (e:out.as = out.bs):a = b:=by
  obtain ⟨x,y,u,v,h1,h2,h3,h4,h5,h6⟩:=h
  rw [h1,h2] at e
  exact (List.cons.inj (List.append_inj_right e h3)).1
theorem Sfx.obsEq {as bs:List Addr} {oa ob:List Obs} {out:Out} {a b:Obs} (h:Sfx as bs (a :: oa) (b :: ob) out) (e:out.oa = out.ob):a = b:=by
  obtain ⟨x,y,u,v,h1,h2,h3,h4,h5,h6⟩:=h
  rw [h4,h5] at e
  exact (List.cons.inj (List.append_inj_right e h6)).1
theorem ns {α:Type} {x:α} {p:Prop} (h:(none:Option α) = some x):p:=nomatch h
theorem sfx1 {as bs:List Addr} {oa ob:List Obs} {out:Out} {r:Except Value Fin} {L:Led} {N T:Nat} (h:some (⟨r,L,N,T,as,bs,oa,ob⟩:Out) = some out):Sfx as bs oa ob out:=by
  cases h; exact Sfx.refl
theorem mO {β:Type} {p:Prop} {x:Option Obj} {f:Obj → Option β} {r:β} (h:(match x with | some o=>f o | none=>none) = some r) (k:∀ o,x = some o → f o = some r → p):p:=by
  cases x with
  | none=>exact ns h
  | some o=>exact k o rfl h
theorem mP {β:Type} {p:Prop} {x:Option (Addr × Obj)} {f:(Addr × Obj) → Option β} {r:β} (h:(match x with | some o=>f o | none=>none) = some r) (k:∀ o,x = some o → f o = some r → p):p:=by
  cases x with
  | none=>exact ns h
  | some o=>exact k o rfl h
theorem mL {β:Type} {p:Prop} {x:Option Led} {f:Led → Option β} {r:β} (h:(match x with | some o=>f o | none=>none) = some r) (k:∀ o,x = some o → f o = some r → p):p:=by
  cases x with
  | none=>exact ns h
  | some o=>exact k o rfl h
theorem mB {β:Type} {p:Prop} {x:Bool} {f:Option β} {r:β} (h:(match x with | true=>none | false=>f) = some r) (k:x = false → f = some r → p):p:=by
  cases x with
  | true=>exact ns h
  | false=>exact k rfl h
theorem mB' {β:Type} {p:Prop} {x:Bool} {f:Option β} {r:β} (h:(match x with | false=>none | true=>f) = some r) (k:x = true → f = some r → p):p:=by
  cases x with
  | false=>exact ns h
  | true=>exact k rfl h
theorem mG {β:Type} {p:Prop} {f:Addr → Obj → Option β} {L:Led} {j:Nat} {r:β} (h:getK none f L j = some r) (k:∀ b o,L[j]? = some (b,o) → f b o = some r → p):p:=by
  rw [getK_eq] at h
  exact mP (x:=L[j]?) (f:=fun p=>f p.1 p.2) h fun x e q=>k _ _ e q
theorem mU {β:Type} {p:Prop} {f:Obj → Obj} {L:Led} {j:Nat} {g:Addr → Led → Option β} {r:β} (h:updK f none L j g = some r) (k:∀ b o,L[j]? = some (b,o) → (f o).isFreed = false → g b (L.set j (b,f o)) = some r → p):p:=by
  rw [updK_eq] at h
  exact mP (x:=L[j]?) (f:=fun p=>match (f p.2).isFreed with | true=>none | false=>g p.1 (L.set j (p.1,f p.2))) h fun x e q=>mB q fun y z=>k _ _ e y z
theorem mS {β:Type} {p:Prop} {js:List Nat} {os:List Obj} {L:Led} {g:Led → Option β} {r:β} (h:setsK none js os L g = some r) (k:∀ L',setsL js os L = some L' → g L' = some r → p):p:=by
  rw [setsK_eq] at h
  exact mL (f:=g) h k
theorem run_sfx (C:Cf):∀ (n:Nat) {mem ctl:List Nat} {os:List Ans} {c:Code} {κ:Kn} {t:Sem Fin} {L:Led} {N T:Nat} {as bs:List Addr} {oa ob:List Obs} {out:Out},
    run C n mem ctl os c κ t L N T as bs oa ob = some out → Sfx as bs oa ob out:=by
  intro n
  induction n with
  | zero=>intro mem ctl os c κ t L N T as bs oa ob out h; exact ns h
  | succ n ih=>
    intro mem ctl os c κ t L N T as bs oa ob out
    cases t with
    | pure fin=>
      cases κ with
      | base=>
        cases fin with
        | done f=>cases os with
          | nil=>exact sfx1
          | cons _ _=>exact ns
        | again c'=>
          refine fun h=>mB' h fun _ h=>?_
          cases os with
          | nil=>exact sfx1 h
          | cons _ _=>exact ns h
      | ret c₁ k κ'=>
        cases fin with
        | done f=>exact fun h=>ih h
        | again c'=>
          refine fun h=>mB' h fun _=>?_
          cases ctl with
          | nil=>exact ns
          | cons i ctl=>
            cases i with
            | zero=>exact fun h=>ih h
            | succ i=>
              cases os with
              | nil=>exact ns
              | cons eo os=>
                cases eo with
                | stk p bl=>exact ns
                | cut e o=>
                  refine fun h=>mS h fun L' _ h=>?_
                  rw [snocsK_eq] at h
                  exact (ih h).obs
    | raise e=>
      cases κ with
      | base=>cases os with
        | nil=>exact sfx1
        | cons _ _=>exact ns
      | ret c₁ k κ'=>exact fun h=>ih h
    | rule _ k=>exact fun h=>ih h
    | «at» _ k=>exact fun h=>ih h
    | point _ k=>exact fun h=>ih h
    | ask k=>exact fun h=>ih h
    | load a p k=>
      cases mem with
      | nil=>exact ns
      | cons j mem=>
        cases j with
        | zero=>exact fun h=>mO (x:=C.top a) h fun o _ h=>ih h
        | succ j=>exact fun h=>mG h fun b o _ h=>(ih h).mem
    | loadIfAlive a k=>
      cases mem with
      | nil=>exact ns
      | cons j mem=>
        cases j with
        | zero=>exact fun h=>mO (x:=C.top a) h fun o _ h=>ih h
        | succ j=>exact fun h=>mG h fun b o _ h=>(ih h).mem
    | update a p f k=>
      cases mem with
      | nil=>exact ns
      | cons j mem=>
        cases j with
        | zero=>exact ns
        | succ j=>exact fun h=>mU h fun b o _ _ h=>(ih h).mem
    | alloc o k=>
      refine fun h=>mB h fun _ h=>?_
      rw [snocK_eq] at h
      exact ih h
    | fresh k=>exact fun h=>ih h
    | call c' hd g l k=>
      cases hd with
      | some _=>exact ns
      | none=>
        cases ctl with
        | nil=>exact ns
        | cons i ctl=>
          cases i with
          | zero=>exact fun h=>ih h
          | succ i=>
            cases os with
            | nil=>exact ns
            | cons eo os=>
              cases eo with
              | stk p bl=>exact ns
              | cut e o=>
                refine fun h=>mS h fun L' _ h=>?_
                rw [snocsK_eq] at h
                exact (ih h).obs
    | handled own k=>
      cases own with
      | true=>exact ns
      | false=>exact fun h=>ih h
    | stack k=>
      cases os with
      | nil=>exact ns
      | cons eo os=>
        cases eo with
        | cut e o=>exact ns
        | stk p bl=>exact fun h=>ih h
    | _=>exact ns
end Mine
end
section
namespace Mine
noncomputable def Ar (A₀:Around):Kn → Around
  | .base=>A₀
  | .ret c _ κ=>(Ar A₀ κ).under c
structure Want where
  B:Fin → Shared → Prop
  E:Value → Shared → Prop
noncomputable def psOf (prog:Program) (w:World) (A₀:Around) (W:Want) (R:Result → Shared → Prop):Kn → Fin → Shared → Prop
  | .base=>W.B
  | .ret c k κ=>postC prog w (Ar A₀ (.ret c k κ)) R
noncomputable def peOf (W:Want) (R:Result → Shared → Prop):Kn → Value → Shared → Prop
  | .base=>W.E
  | .ret _ _ _=>postE R
noncomputable def En (prog:Program) (w:World) (A₀:Around) (W:Want):Kn → Result → Shared → Prop
  | .base=>fun _ _=>True
  | .ret c k κ=>fun r s=>wpOwn (model prog w) (Ar A₀ κ) c (k r) (psOf prog w A₀ W (En prog w A₀ W κ) κ) (peOf W (En prog w A₀ W κ) κ) s
noncomputable def Ps (prog:Program) (w:World) (A₀:Around) (W:Want) (κ:Kn):Fin → Shared → Prop:=psOf prog w A₀ W (En prog w A₀ W κ) κ
noncomputable def Pe (prog:Program) (w:World) (A₀:Around) (W:Want) (κ:Kn):Value → Shared → Prop:=peOf W (En prog w A₀ W κ) κ
noncomputable def Go (prog:Program) (w:World) (A₀:Around) (W:Want) (c:Code) (κ:Kn) (t:Sem Fin) (s:Shared):Prop:=
  wpOwn (model prog w) (Ar A₀ κ) c t (Ps prog w A₀ W κ) (Pe prog w A₀ W κ) s
noncomputable def FinOk (W:Want) (r:Except Value Fin) (s:Shared):Prop:=match r with
  | .ok (.done f)=>W.B (.done f) s
  | .ok (.again c)=>c.quiet = true → W.B (.again c) s
  | .error e=>W.E e s
noncomputable def Fam.Holds (prog:Program) (w:World) (C:Cf) (A₀:Around) (W:Want) (S:List Addr) (h₀:Heap) (g:Array GenState) (d:Drawn) (os:OsState):Fam → Prop
  | .fin r L N T=>∀ h,Rep C S h₀ L h → h.objs.size = N → FinOk W r ⟨h,g,d,T,os⟩
  | .ask _ e ix o next=>ix.Nodup ∧ Con prog w C (A₀.depth + e.dw) (A₀.units + e.du) e.c e.rd e.N e.T o ∧ ∀ z,(next z).Holds prog w C A₀ W S h₀ g d os
  | .stk next=>∀ p below,(next p below).Holds prog w C A₀ W S h₀ g d os
section
variable {prog:Program} {w:World} {C:Cf} {A₀:Around} {W:Want} {S:List Addr} {h₀:Heap} {g:Array GenState} {d:Drawn} {os:OsState}
theorem Ar_depth (O:C.Ok prog w):∀ κ:Kn,(Ar A₀ κ).depth = A₀.depth + wtK C κ
  | .base=>rfl
  | .ret c _ κ=>by
    show (Ar A₀ κ).depth + c.weight = _
    rw [Ar_depth O κ,wtK,O.wt]; omega
theorem Ar_units (O:C.Ok prog w):∀ κ:Kn,(Ar A₀ κ).units = A₀.units + unK C κ
  | .base=>rfl
  | .ret c _ κ=>by
    show (Ar A₀ κ).units + c.cUnits = _
    rw [Ar_units O κ,unK,O.un]; omega
theorem Rep.lt {L:Led} {h:Heap} (D:Rep C S h₀ L h) {p:Addr × Obj} (hp:p ∈ L):p.1 < h.objs.size:=Heap.lt_size (D.has p hp)
theorem Rep.alloc {L:Led} {h:Heap} (D:Rep C S h₀ L h) {o:Obj} (hf:o.isFreed = false):Rep C S h₀ (L++[(h.objs.size,o)]) (h.push o) where
  top:=fun a x e=>Heap.get?_push_of_some _ (D.top a x e)
  has:=fun p hp=>by
    rcases List.mem_append.mp hp with q | q
    · exact Heap.get?_push_of_some _ (D.has p q)
    · have:p = (h.objs.size,o):=by simpa using q
      rw [this]; exact Heap.get?_push_size _ hf
  nodup:=by
    rw [List.map_append]
    refine List.nodup_append.mpr ⟨D.nodup,by simp,?_⟩
    intro a ha b hb
    obtain ⟨p,hp,rfl⟩:=List.mem_map.mp ha
    have hb':b = h.objs.size:=by simpa using hb
    rw [hb']
    exact Nat.ne_of_lt (D.lt hp)
  off:=fun p hp=>by
    rcases List.mem_append.mp hp with q | q
    · exact D.off p q
    · have e:p = (h.objs.size,o):=by simpa using q
      rw [e]
      cases z:C.top h.objs.size with
      | none=>rfl
      | some x=>exact absurd (Heap.lt_size (D.top _ _ z)) (Nat.lt_irrefl _)
  keep:=fun b x e n=>Heap.get?_push_of_some _ (D.keep b x e n)
  inS:=fun p hp=>by
    rcases List.mem_append.mp hp with q | q
    · exact D.inS p q
    · have e:p = (h.objs.size,o):=by simpa using q
      rw [e]; exact .inr D.grow
  grow:=by rw [Heap.size_push]; exact Nat.le_succ_of_le D.grow
theorem Rep.update {L:Led} {h:Heap} (D:Rep C S h₀ L h) {j:Nat} {a:Addr} {o:Obj} {f:Obj → Obj} (e:L[j]? = some (a,o)) (hf:(f o).isFreed = false):Rep C S h₀ (L.set j (a,f o)) (h.update a f):=by
  have hm:=List.mem_of_getElem? e
  have hs:Heap.SameBut a h (h.update a f):=Heap.SameBut.update ..
  have ge:(h.update a f).get? a = some (f o):=by first | exact Heap.get?_update_self f (D.has _ hm) hf | exact Heap.get?_update_self _ (D.has _ hm) hf
  have ad:=set_addrs L j (a,o) (f o) e
  have sub:∀ p ∈ L.set j (a,f o),p = (a,f o) ∨ (p ∈ L ∧ p.1 ≠ a):=by
    intro p hp
    obtain ⟨i,hi⟩:=List.getElem?_of_mem hp
    rw [List.getElem?_set] at hi
    by_cases ji:j = i
    · rw [if_pos ji] at hi
      split at hi
      · cases hi; exact .inl rfl
      · cases hi
    · rw [if_neg ji] at hi
      refine .inr ⟨List.mem_of_getElem? hi,fun z=>?_⟩
      have h1:(L.map (·.1))[j]? = some a:=by rw [List.getElem?_map,e]; rfl
      have h2:(L.map (·.1))[i]? = some a:=by rw [List.getElem?_map,hi,← z]; rfl
      obtain ⟨l1,e1⟩:=List.getElem?_eq_some_iff.mp h1
      obtain ⟨l2,e2⟩:=List.getElem?_eq_some_iff.mp h2
      rcases Nat.lt_or_gt_of_ne ji with q | q
      · exact List.pairwise_iff_getElem.mp D.nodup j i l1 l2 q (e1.trans e2.symm)
      · exact List.pairwise_iff_getElem.mp D.nodup i j l2 l1 q (e2.trans e1.symm)
  refine ⟨fun b x z=>?_,fun p hp=>?_,by rw [ad]; exact D.nodup,fun p hp=>?_,fun b x z n=>?_,fun p hp=>?_,by rw [hs.1]; exact D.grow⟩
  · refine (hs.2 b fun q=>?_).trans (D.top b x z)
    have:=D.off _ hm
    rw [q] at z; rw [this] at z; cases z
  · rcases sub p hp with q | ⟨q,n⟩
    · rw [q]; exact ge
    · exact (hs.2 p.1 n).trans (D.has p q)
  · rcases sub p hp with q | ⟨q,_⟩
    · rw [q]; exact D.off (a,o) hm
    · exact D.off p q
  · refine (hs.2 b fun q=>?_).trans (D.keep b x z n)
    rcases D.inS _ hm with y | y
    · exact n (q ▸ y)
    · exact absurd (Nat.lt_of_lt_of_le (Heap.lt_size z) (q ▸ y)) (Nat.lt_irrefl _)
  · rcases sub p hp with q | ⟨q,_⟩
    · rw [q]; exact D.inS (a,o) hm
    · exact D.inS p q
theorem Rep.aft {L L₁:Led} {s s':Shared} {ix:List Nat} {o:Pst} (D:Rep C S h₀ L s.heap) (hL:setsL ix o.wr L = some L₁) (B:Aft s s' (rdK ix L) o):Rep C S h₀ (L₁++o.nw) s'.heap:=by
  have ad:=setsL_addrs hL
  have mm:=setsL_mem hL D.nodup
  have old:∀ a ∈ L₁.map (·.1),a < s.heap.objs.size:=by
    intro a ha
    rw [ad] at ha
    obtain ⟨p,hp,rfl⟩:=List.mem_map.mp ha
    exact D.lt hp
  have rdS:∀ a ∈ (rdK ix L).map (·.1),∃ p ∈ L,p.1 = a:=by
    intro a ha
    obtain ⟨p,hp,rfl⟩:=List.mem_map.mp ha
    exact ⟨p,rdK_sub _ _ p hp,rfl⟩
  have l1:∀ p ∈ L₁,∃ q ∈ L,q.1 = p.1:=by
    intro p hp
    have:p.1 ∈ L.map (·.1):=by rw [← ad]; exact List.mem_map_of_mem hp
    obtain ⟨q,hq,e⟩:=List.mem_map.mp this
    exact ⟨q,hq,e⟩
  refine ⟨fun a x e=>?_,fun p hp=>?_,?_,fun p hp=>?_,fun b x e n=>?_,fun p hp=>?_,?_⟩
  · refine B.keep a x (D.top a x e) fun q=>?_
    obtain ⟨p,hp,rfl⟩:=rdS a q
    rw [D.off p hp] at e; cases e
  · rcases List.mem_append.mp hp with q | q
    · rcases mm p q with z | ⟨z,n⟩
      · exact B.wr p z
      · exact B.keep _ _ (D.has p z) n
    · exact (B.nw p q).1
  · rw [List.map_append]
    refine List.nodup_append.mpr ⟨by rw [ad]; exact D.nodup,B.nd,?_⟩
    intro a ha b hb
    have h1:=old a ha
    obtain ⟨p,hp,rfl⟩:=List.mem_map.mp hb
    have h2:=(B.nw p hp).2
    exact Nat.ne_of_lt (Nat.lt_of_lt_of_le h1 h2)
  · rcases List.mem_append.mp hp with q | q
    · obtain ⟨r,hr,e⟩:=l1 p q
      rw [← e]; exact D.off r hr
    · cases z:C.top p.1 with
      | none=>rfl
      | some x=>
        exact absurd (Nat.lt_of_lt_of_le (Heap.lt_size (D.top _ _ z)) (B.nw p q).2) (Nat.lt_irrefl _)
  · refine B.keep b x (D.keep b x e n) fun q=>?_
    obtain ⟨p,hp,rfl⟩:=rdS b q
    rcases D.inS p hp with y | y
    · exact n y
    · exact absurd (Nat.lt_of_lt_of_le (Heap.lt_size e) y) (Nat.lt_irrefl _)
  · rcases List.mem_append.mp hp with q | q
    · obtain ⟨r,hr,e⟩:=l1 p q
      rw [← e]; exact D.inS r hr
    · exact .inr (Nat.le_trans D.grow (B.nw p q).2)
  · rw [B.size]; exact Nat.le_trans D.grow B.grow
theorem rd_nodup {L:Led} (nd:(L.map (·.1)).Nodup):∀ {js:List Nat},js.Nodup → ((rdK js L).map (·.1)).Nodup:=by
  intro js hj
  induction js with
  | nil=>simp [rdK]
  | cons j js ih=>
    have hj':=List.nodup_cons.mp hj
    cases e:L[j]? with
    | none=>
      rw [rdK,getK_eq,e]
      exact ih hj'.2
    | some p=>
      rw [rdK_cons j js L p e,List.map_cons]
      refine List.nodup_cons.mpr ⟨fun q=>?_,ih hj'.2⟩
      have key:∀ {ks:List Nat},p.1 ∈ (rdK ks L).map (·.1) → j ∈ ks:=by
        intro ks
        induction ks with
        | nil=>intro h; simp [rdK] at h
        | cons k ks ihk=>
          intro h
          cases f:L[k]? with
          | none=>rw [rdK,getK_eq,f] at h; exact .tail _ (ihk h)
          | some x=>
            rw [rdK_cons k ks L x f,List.map_cons] at h
            rcases List.mem_cons.mp h with z | z
            · have h1:(L.map (·.1))[j]? = some p.1:=by rw [List.getElem?_map,e]; rfl
              have h2:(L.map (·.1))[k]? = some p.1:=by rw [List.getElem?_map,f,z]; rfl
              obtain ⟨l1,e1⟩:=List.getElem?_eq_some_iff.mp h1
              obtain ⟨l2,e2⟩:=List.getElem?_eq_some_iff.mp h2
              by_cases jk:j = k
              · rw [jk]; exact .head _
              · exfalso
                rcases Nat.lt_or_gt_of_ne jk with q | q
                · exact List.pairwise_iff_getElem.mp nd j k l1 l2 q (e1.trans e2.symm)
                · exact List.pairwise_iff_getElem.mp nd k j l2 l1 q (e2.trans e1.symm)
            · exact .tail _ (ihk z)
      exact hj'.1 (key q)
theorem Ar_handled:∀ κ:Kn,(Ar A₀ κ).handled = A₀.handled
  | .base=>rfl
  | .ret c _ κ=>Ar_handled κ
theorem cut_ok {A:Around} (hA:A.handled = none) {L:Led} {N T:Nat} {h:Heap} {Z:Type} {e:Obs} {ix:List Nat} {o:Z → Pst} {next:Z → Fam} {Rn:Result → Shared → Prop}
    (H:(Fam.ask Z e ix o next).Holds prog w C A₀ W S h₀ g d os) (D:Rep C S h₀ L h) (hN:h.objs.size = N)
    (ee:e = ⟨e.c,e.dw,e.du,rdK ix L,N,T⟩) (hd:A.depth ≤ A₀.depth + e.dw) (hu:A.units ≤ A₀.units + e.du)
    (hn:∀ z s',Aft ⟨h,g,d,T,os⟩ s' (rdK ix L) (o z) → Rn (o z).f.res s'):codeAny (model prog w) A e.c Rn ⟨h,g,d,T,os⟩:=by
  obtain ⟨hix,hc,_⟩:=H
  have er:e.rd = rdK ix L:=congrArg Obs.rd ee
  have eN:e.N = N:=congrArg Obs.N ee
  have eT:e.T = T:=congrArg Obs.T ee
  rw [er,eN,eT] at hc
  refine codeAny_mono (hc A ⟨h,g,d,T,os⟩ hA hd hu D.top (fun p hp=>D.has p (rdK_sub _ _ p hp)) (rd_nodup D.nodup hix) (fun p hp=>D.off p (rdK_sub _ _ p hp)) hN rfl) ?_
  rintro r s' ⟨z,rfl,B⟩
  exact hn z s' B
end
end Mine
end
section
namespace Mine
section
variable {prog:Program} {w:World} {C:Cf} {A₀:Around} {W:Want} {S:List Addr} {h₀:Heap} {g:Array GenState} {d:Drawn} {os:OsState}
theorem Go.code (O:C.Ok prog w) {c c₁:Code} {k:Result → Sem Fin} {κ:Kn} {s:Shared} (h:Go prog w A₀ W c (.ret c₁ k κ) (C.D c) s):codeAny (model prog w) (Ar A₀ (.ret c₁ k κ)) c (En prog w A₀ W (.ret c₁ k κ)) s:=by
  rw [O.D] at h
  exact y_code _ _ _ _ _ _ h
section
variable {A:Around} {c:Code} {Q:Fin → Shared → Prop} {E:Value → Shared → Prop} {s:Shared}
theorem o_pure {a:Fin} (h:Q a s):wpOwn (model prog w) A c (Sem.pure a) Q E s:=fun _ _ _ _=>h
theorem o_raise {e:Value} (h:E e s):wpOwn (model prog w) A c (Sem.raise e) Q E s:=fun _ _ _ _=>h
theorem o_rule {t:String} {k:Unit → Sem Fin} (h:wpOwn (model prog w) A c (k ()) Q E s):wpOwn (model prog w) A c (.rule t k) Q E s:=fun Γ p hc hΓ=>h Γ p hc hΓ
theorem o_at {q:Pos} {k:Unit → Sem Fin} (h:wpOwn (model prog w) A c (k ()) Q E s):wpOwn (model prog w) A c (.at q k) Q E s:=fun Γ _ hc hΓ=>h Γ q hc hΓ
theorem o_point {l:List Value} {k:Unit → Sem Fin} (h:wpOwn (model prog w) A c (k ()) Q E s):wpOwn (model prog w) A c (.point l k) Q E s:=fun Γ p hc hΓ=>h Γ p hc hΓ
theorem o_ask {k:Setting → Sem Fin} (h:wpOwn (model prog w) A c (k ⟨prog,w.params⟩) Q E s):wpOwn (model prog w) A c (.ask k) Q E s:=fun Γ p hc hΓ=>h Γ p hc hΓ
theorem o_fresh {k:Tok → Sem Fin} (h:wpOwn (model prog w) A c (k s.toks) Q E { s with toks:=s.toks + 1 }):wpOwn (model prog w) A c (.fresh k) Q E s:=fun Γ p hc hΓ=>h Γ p hc hΓ
theorem o_load {a:Addr} {q:Option Value} {k:Obj → Sem Fin} {o:Obj} (ho:s.heap.get? a = some o) (h:wpOwn (model prog w) A c (k o) Q E s):wpOwn (model prog w) A c (.load a q k) Q E s:=
  wpOwn_bind (m:=loadPart a q) (f:=k) (wpOwn_of_wpAny (wpAny_loadPart ho h))
theorem o_alive {a:Addr} {k:Option Obj → Sem Fin} {o:Obj} (ho:s.heap.get? a = some o) (h:wpOwn (model prog w) A c (k (some o)) Q E s) :
    wpOwn (model prog w) A c (.loadIfAlive a k) Q E s:=fun Γ p hc hΓ=>by
  rw [Sem.wp_loadIfAlive,ho]
  exact h Γ p hc hΓ
theorem o_call {c':Code} {g:Bool} {l:List Value} {k:Result → Sem Fin} (x:codeAny (model prog w) (A.under c) c' (fun r s'=>wpOwn (model prog w) A c (k r) Q E s') s):wpOwn (model prog w) A c (.call c' none g l k) Q E s:=
  fun Γ p hc hΓ=>wpCode_mono (fun _ _ q=>q Γ p hc hΓ) (x _ p rfl ((hc ▸ hΓ.in:Γ.In (A.under c)).enter c' none p (by intro e; cases e)))
theorem o_handled {k:Option Value → Sem Fin} (h:wpOwn (model prog w) A c (k A.handled) Q E s):wpOwn (model prog w) A c (.handled false k) Q E s:=y_handled _ _ _ _ _ _ _ _ _ h
theorem o_stack {k:List (Code × Pos) → Sem Fin} (h:∀ (p:Pos) (below:List (Code × Pos)),wpOwn (model prog w) A c (k ((c,p) :: below)) Q E s):wpOwn (model prog w) A c (.stack k) Q E s:=y_stack _ _ _ _ _ _ _ _ _ fun p below _=>h p below
end
theorem fO {F:Fam} {x:Option Obj} {f:Obj → List Ans → Option Out} (h:F.Fits fun os=>match x with | some o=>f o os | none=>none):∃ o,x = some o ∧ F.Fits (f o):=by
  cases x with
  | none=>exact (fits_none h).elim
  | some o=>exact ⟨o,rfl,h⟩
theorem fP {F:Fam} {x:Option (Addr × Obj)} {f:Addr → Obj → List Ans → Option Out} (h:F.Fits fun os=>match x with | some p=>f p.1 p.2 os | none=>none):∃ a o,x = some (a,o) ∧ F.Fits (f a o):=by
  cases x with
  | none=>exact (fits_none h).elim
  | some p=>exact ⟨p.1,p.2,rfl,h⟩
theorem fL {F:Fam} {x:Option Led} {f:Led → List Ans → Option Out} (h:F.Fits fun os=>match x with | some o=>f o os | none=>none):∃ o,x = some o ∧ F.Fits (f o):=by
  cases x with
  | none=>exact (fits_none h).elim
  | some o=>exact ⟨o,rfl,h⟩
theorem fB {F:Fam} {x:Bool} {f:List Ans → Option Out} (h:F.Fits fun os=>match x with | true=>none | false=>f os):x = false ∧ F.Fits f:=by
  cases x with
  | true=>exact (fits_none h).elim
  | false=>exact ⟨rfl,h⟩
theorem fB' {F:Fam} {x:Bool} {f:List Ans → Option Out} (h:F.Fits fun os=>match x with | false=>none | true=>f os):x = true ∧ F.Fits f:=by
  cases x with
  | false=>exact (fits_none h).elim
  | true=>exact ⟨rfl,h⟩
theorem fG {F:Fam} {L:Led} {j:Nat} {f:Addr → Obj → List Ans → Option Out} (h:F.Fits fun os=>getK none (fun b o=>f b o os) L j):∃ b o,L[j]? = some (b,o) ∧ F.Fits (f b o):=
  fP (fits_mono h fun os=>getK_eq ..)
theorem fU {F:Fam} {L:Led} {j:Nat} {u:Obj → Obj} {f:Addr → Led → List Ans → Option Out} (h:F.Fits fun os=>updK u none L j fun b L'=>f b L' os):∃ b o,L[j]? = some (b,o) ∧ (u o).isFreed = false ∧ F.Fits (f b (L.set j (b,u o))):=by
  obtain ⟨b,o,e,q⟩:=fP (f:=fun b o os=>match (u o).isFreed with | true=>none | false=>f b (L.set j (b,u o)) os) (fits_mono h fun os=>updK_eq ..)
  exact ⟨b,o,e,fB q⟩
theorem fD {F:Fam} {r:Except Value Fin} {L:Led} {N T:Nat} {as bs:List Addr} {oa ob:List Obs} (h:F.Fits fun os=>match os with | []=>some ⟨r,L,N,T,as,bs,oa,ob⟩ | _ :: _=>none):F = .fin r L N T:=by
  cases F with
  | stk next=>exact (fits_none (h default [])).elim
  | ask Z e ix o next=>exact (h.1.elim fun z=>fits_none (h.2 z)).elim
  | fin r L N T=>
    obtain ⟨as',ob',e⟩:=h
    cases e
    rfl
theorem fC {F:Fam} {f:Obs → Orc → List Ans → Option Out} (h:F.Fits fun os=>match os with | []=>none | .stk _ _ :: _=>none | .cut e o :: os=>f e o os):∃ Z e ix o next,F = .ask Z e ix o next:=by
  cases F with
  | stk next=>exact (fits_none (h default [])).elim
  | ask Z e ix o next=>exact ⟨Z,e,ix,o,next,rfl⟩
  | fin r L N T=>exact ns h.choose_spec.choose_spec
theorem fS {F:Fam} {f:Pos → List (Code × Pos) → List Ans → Option Out} (h:F.Fits fun os=>match os with | []=>none | .cut _ _ :: _=>none | .stk p below :: os=>f p below os):∃ next,F = .stk next:=by
  cases F with
  | stk next=>exact ⟨next,rfl⟩
  | ask Z e ix o next=>exact (h.1.elim fun z=>fits_none (h.2 z)).elim
  | fin r L N T=>exact ns h.choose_spec.choose_spec
noncomputable def SoundAt (prog:Program) (w:World) (C:Cf) (A₀:Around) (W:Want) (S:List Addr) (h₀:Heap) (g:Array GenState) (d:Drawn) (os:OsState) (n:Nat):Prop:=∀ {F:Fam} {mem ctl:List Nat} {c:Code} {κ:Kn} {t:Sem Fin} {L:Led} {N T:Nat} {as bs:List Addr} {oa ob:List Obs} {h:Heap},
    F.Fits (fun os=>run C n mem ctl os c κ t L N T as bs oa ob) → Rep C S h₀ L h → h.objs.size = N → F.Holds prog w C A₀ W S h₀ g d os → Go prog w A₀ W c κ t ⟨h,g,d,T,os⟩
theorem cutL {n:Nat} (ih:SoundAt prog w C A₀ W S h₀ g d os n) (O:C.Ok prog w) (hA:A₀.handled = none) {mem ctl:List Nat} {c' c₁:Code} {κ':Kn} {k:Result → Sem Fin} {L:Led} {N T:Nat} {as bs:List Addr} {oa ob:List Obs} {h:Heap}
    {Z:Type} {e:Obs} {ix:List Nat} {o:Z → Pst} {next:Z → Fam}
    (hF:(Fam.ask Z e ix o next).Fits fun os=>match os with
      | []=>none
      | .stk _ _ :: _=>none
      | .cut e o :: os=>setsK none o.ix o.q.wr L fun L₁=>snocsK o.q.nw L₁ fun L₂=>
        run C n mem ctl os c₁ κ' (k o.q.f.res) L₂ o.q.N o.q.T as bs (⟨c',C.wt c₁ + wtK C κ',C.un c₁ + unK C κ',rdK o.ix L,N,T⟩ :: oa) (e :: ob))
    (D:Rep C S h₀ L h) (hN:h.objs.size = N) (H:(Fam.ask Z e ix o next).Holds prog w C A₀ W S h₀ g d os) :
    codeAny (model prog w) (Ar A₀ (.ret c₁ k κ')) c' (En prog w A₀ W (.ret c₁ k κ')) ⟨h,g,d,T,os⟩:=by
  have key:∀ z,∃ L₁,setsL ix (o z).wr L = some L₁ ∧ (next z).Fits (fun os=>run C n mem ctl os c₁ κ' (k (o z).f.res) (L₁++(o z).nw) (o z).N (o z).T as bs (⟨c',C.wt c₁ + wtK C κ',C.un c₁ + unK C κ',rdK ix L,N,T⟩ :: oa) (e :: ob)):=fun z=>
    fL (fits_mono (hF.2 z) fun os=>by show setsK none ix (o z).wr L _ = _; rw [setsK_eq]; cases setsL ix (o z).wr L with | none=>rfl | some L₁=>exact snocsK_eq ..)
  have ee:∀ _:Z,e = ⟨c',C.wt c₁ + wtK C κ',C.un c₁ + unK C κ',rdK ix L,N,T⟩:=by
    intro z
    obtain ⟨L₁,_,f⟩:=key z
    obtain ⟨os',out,e1,_,e3⟩:=fits_ex f
    exact ((run_sfx C n e1).obsEq e3).symm
  have e0:=hF.1.elim ee
  have ec:e.c = c':=congrArg Obs.c e0
  rw [← ec]
  refine cut_ok ((Ar_handled _).trans hA) H D hN (by rw [e0]) (by rw [e0,Ar_depth O]; exact Nat.le_refl _) (by rw [e0,Ar_units O]; exact Nat.le_refl _) fun z s' B=>?_
  obtain ⟨L₁,hs,f⟩:=key z
  have y:=ih f (Rep.aft D hs B) B.size (H.2.2 z)
  have es:(⟨s'.heap,g,d,(o z).T,os⟩:Shared) = s':=by
    have q1:s'.gens = g:=B.gens
    have q2:s'.drawn = d:=B.drawn
    have q3:s'.os = os:=B.os
    rw [← q1,← q2,← q3,← B.toks]
  rw [es] at y
  exact y
theorem sound (O:C.Ok prog w) (hA:A₀.handled = none):∀ (n:Nat),SoundAt prog w C A₀ W S h₀ g d os n:=by
  intro n
  induction n with
  | zero=>intro F mem ctl c κ t L N T as bs oa ob h hF; exact (fits_none hF).elim
  | succ n ih=>
    intro F mem ctl c κ t L N T as bs oa ob h hF D hN H
    cases t with
    | pure fin=>
      cases κ with
      | base=>
        cases fin with
        | done f=>
          cases fD hF
          exact o_pure (H h D hN)
        | again c'=>
          have z:=fB' hF
          cases fD z.2
          exact o_pure (H h D hN (by rw [← O.q]; exact z.1))
      | ret c₁ k κ'=>
        cases fin with
        | done f=>exact o_pure (ih (fits_mono hF fun os=>rfl) D hN H)
        | again c'=>
          have z:=fB' hF
          have hq:c'.quiet = true:=by rw [← O.q]; exact z.1
          refine o_pure ⟨hq,?_⟩
          cases ctl with
          | nil=>exact (fits_none z.2).elim
          | cons i ctl=>
            cases i with
            | zero=>exact Go.code O (ih z.2 D hN H)
            | succ i=>
              obtain ⟨Z,e,ix,o,next,rfl⟩:=fC z.2
              exact cutL ih O hA z.2 D hN H
    | raise e=>
      cases κ with
      | base=>
        cases fD hF
        exact o_raise (H h D hN)
      | ret c₁ k κ'=>exact o_raise (ih (fits_mono hF fun os=>rfl) D hN H)
    | rule _ k=>exact o_rule (ih (fits_mono hF fun os=>rfl) D hN H)
    | «at» _ k=>exact o_at (ih (fits_mono hF fun os=>rfl) D hN H)
    | point _ k=>exact o_point (ih (fits_mono hF fun os=>rfl) D hN H)
    | ask k=>
      refine o_ask ?_
      rw [← O.S]
      exact ih (fits_mono hF fun os=>rfl) D hN H
    | load a p k=>
      cases mem with
      | nil=>exact (fits_none hF).elim
      | cons j mem=>
        cases j with
        | zero=>exact (fO (f:=fun o os=>run C n mem ctl os c κ (k o) L N T as bs oa ob) hF).elim fun o z=>o_load (D.top a o z.1) (ih z.2 D hN H)
        | succ j=>
          obtain ⟨b,o,z,f⟩:=fG (f:=fun b o os=>run C n mem ctl os c κ (k o) L N T (a :: as) (b :: bs) oa ob) hF
          obtain ⟨os',out,e1,e2,_⟩:=fits_ex f
          exact o_load ((run_sfx C n e1).memEq e2 ▸ D.has _ (List.mem_of_getElem? z)) (ih f D hN H)
    | loadIfAlive a k=>
      cases mem with
      | nil=>exact (fits_none hF).elim
      | cons j mem=>
        cases j with
        | zero=>exact (fO (f:=fun o os=>run C n mem ctl os c κ (k (some o)) L N T as bs oa ob) hF).elim fun o z=>o_alive (D.top a o z.1) (ih z.2 D hN H)
        | succ j=>
          obtain ⟨b,o,z,f⟩:=fG (f:=fun b o os=>run C n mem ctl os c κ (k (some o)) L N T (a :: as) (b :: bs) oa ob) hF
          obtain ⟨os',out,e1,e2,_⟩:=fits_ex f
          exact o_alive ((run_sfx C n e1).memEq e2 ▸ D.has _ (List.mem_of_getElem? z)) (ih f D hN H)
    | update a p f k=>
      cases mem with
      | nil=>exact (fits_none hF).elim
      | cons j mem=>
        cases j with
        | zero=>exact (fits_none hF).elim
        | succ j=>
          obtain ⟨b,o,z,y,ff⟩:=fU (f:=fun b L' os=>run C n mem ctl os c κ (k ()) L' N T (a :: as) (b :: bs) oa ob) hF
          obtain ⟨os',out,e1,e2,_⟩:=fits_ex ff
          have ab:a = b:=(run_sfx C n e1).memEq e2
          subst ab
          have hs:Heap.SameBut a h (h.update a f):=Heap.SameBut.update ..
          exact wpOwn_bind (m:=updatePart a p f) (f:=k) (wpOwn_of_wpAny (wpAny_updatePart (D.has _ (List.mem_of_getElem? z)) (ih ff (D.update z y) (hs.1.trans hN) H)))
    | alloc o k=>
      have z:=fB hF
      have ff:F.Fits (fun os=>run C n mem ctl os c κ (k N) (L++[(N,o)]) (N + 1) T as bs oa ob):=fits_mono z.2 fun os=>snocK_eq ..
      subst hN
      exact wpOwn_bind (m:=alloc o) (f:=k) (wpOwn_of_wpAny (wpAny_alloc (ih ff (D.alloc z.1) (Heap.size_push ..) H)))
    | fresh k=>exact o_fresh (ih (fits_mono hF fun os=>rfl) D hN H)
    | call c' hd gd l k=>
      cases hd with
      | some _=>exact (fits_none hF).elim
      | none=>
        refine o_call ?_
        cases ctl with
        | nil=>exact (fits_none hF).elim
        | cons i ctl=>
          cases i with
          | zero=>exact Go.code O (ih (fits_mono hF fun os=>rfl) D hN H)
          | succ i=>
            obtain ⟨Z,e,ix,o,next,rfl⟩:=fC hF
            exact cutL ih O hA hF D hN H
    | handled own k=>
      cases own with
      | true=>exact (fits_none hF).elim
      | false=>
        refine o_handled ?_
        rw [Ar_handled,hA]
        exact ih (fits_mono hF fun os=>rfl) D hN H
    | stack k=>
      obtain ⟨next,rfl⟩:=fS hF
      exact o_stack fun p below=>ih (fits_mono (hF p below) fun os=>rfl) D hN (H p below)
    | _=>exact (fits_none hF).elim
end
end Mine
end
section
namespace Mine
noncomputable def codeFor (fd:FuncData) (env:Env):Code:=match fd.body with
    | .stmts b=>.func b env
    | .expr e=>.expr e env
noncomputable def entryTree (self:Addr) (fd:FuncData) (args:Args):Sem Fin:=do
  let binds ← bindArgs fd args
  let env ← newFunctionEnv fd.scope fd.globals fd.closure binds (fd.qualname++".<locals>.") (some self) fd.code none fd.builtins
  again (codeFor fd env)
section
variable {prog:Program} {w:World} {A:Around} {s:Shared}
theorem call_enter {R:Result → Shared → Prop} {a:Addr} {o:Obj} {fd:FuncData} {args:Args}
    (hroom:A.depth < recursionLimit) (ho:s.heap.get? a = some o) (hd:o.data = .func fd) (hco:fd.scope.isCoroutine = false) (hgen:fd.scope.isGenerator = false) (hcd:s.heap.CodeRec fd.code fd.qualname)
    (h:wpOwn (model prog w) A (.call (.ref a) args) (entryTree a fd args) (fun fin s'=>s'.heap.NoLimit ∧ postC prog w A R fin s') (postE R) s) :
    codeAny (model prog w) A (.call (.ref a) args) R s:=by
  refine y_code _ _ _ _ _ _ ?_
  show wpOwn _ _ _ (callAny (.ref a) args) _ _ s
  simp only [callAny]
  refine wpOwn_bind (wpOwn_of_wpAny (wpAny_load ho ?_))
  obtain ⟨c,oc,vs,tq,hc,hoc,hdc,hq⟩:=hcd
  simp only [hd,callFunction,hco,hgen,hc]
  unfold entryTree at h
  rw [hc] at h
  refine wpOwn_bind (m:=field (.ref c) 1) (wpOwn_of_wpAny (wpAny_field hoc hdc hq (wpOwn_bind (fun _ _ _ _=>?_))))
  intro Γ p hΓc hΓ
  have z:=h Γ p hΓc hΓ
  rw [Sem.wp_bind'] at z ⊢
  refine Sem.wp_mono _ Γ _ ?_ (fun e p s x=>x) p s z
  intro binds p₂ s₂ z₂
  rw [Sem.wp_bind'] at z₂ ⊢
  refine Sem.wp_mono _ Γ _ ?_ (fun e p s x=>x) p₂ s₂ z₂
  intro env p₃ s₃ z₃
  have hl:s₃.heap.NoLimit:=z₃.1
  have hin:Γ.In (A.under (.call (.ref a) args)):=hΓc ▸ hΓ.in
  exact wpAny_bind (wpAny_enterFrame (Q:=fun _ s'=>wpAny (model prog w) (A.under (.call (.ref a) args)) (again (codeFor fd env)) (postC prog w A R) (postE R) s') (E:=postE R) hl (by show A.depth + _ < _; exact hroom) (fun Γ p hΓ=>z₃.2)) Γ p₃ hin
end
end Mine
end
section
namespace Mine
noncomputable abbrev sg (l:List Nat):Str:=⟨⟨l⟩⟩
noncomputable def en (P:Params) (n:Str) (t:Tok) (v:Value):DictEntry:=⟨PyData.keyHash P n,.str n t,v⟩
noncomputable def mainBody:List Stmt:=PG.main.body
noncomputable def stmtAt (i:Nat):Stmt:=mainBody.getD i (.Pass ⟨0,0,0,0⟩)
noncomputable def clsBody:Stmt → List Stmt
  | .ClassDef _ _ _ b _ _ _ _ _ _ _=>b
  | _=>[]
noncomputable def methAt (i:Nat):Stmt:=(clsBody (stmtAt 10)).getD i (.Pass ⟨0,0,0,0⟩)
noncomputable def nameOf:Stmt → Str
  | .FunctionDef n _ _ _ _ _ _ _ _ _=>n
  | _=>sg []
noncomputable def argsOf:Stmt → Arguments
  | .FunctionDef _ a _ _ _ _ _ _ _ _=>a
  | _=>default
noncomputable def bodyOf:Stmt → List Stmt
  | .FunctionDef _ _ b _ _ _ _ _ _ _=>b
  | _=>[]
noncomputable def scopeOf:Stmt → Scope
  | .FunctionDef _ _ _ _ _ _ s _ _ _=>s
  | _=>default
noncomputable def fdat (st:Stmt) (q:Str) (dV kV md:Value) (c:Addr):FuncData:=
  { name:=nameOf st,qualname:=q,params:=argsOf st,body:=.stmts (bodyOf st),scope:=scopeOf st,globals:=3,closure:=[],defaults:=dV,kwdefaults:=kV,doc:=.none,pyModule:=md,annotations:=none,code:=.ref c,closureTuple:=.none,builtins:=0 }
noncomputable def fobj (st:Stmt) (q:Str) (dV kV md:Value) (c:Addr):Obj:=⟨.type "function",none,.func (fdat st q dV kV md c),#[]⟩
noncomputable def st21:Stmt:=stmtAt 1
noncomputable def st28:Stmt:=stmtAt 2
noncomputable def st35:Stmt:=stmtAt 3
noncomputable def st42:Stmt:=stmtAt 4
noncomputable def st49:Stmt:=stmtAt 5
noncomputable def st58:Stmt:=stmtAt 7
noncomputable def st67:Stmt:=stmtAt 8
noncomputable def st116:Stmt:=stmtAt 12
noncomputable def st123:Stmt:=stmtAt 13
noncomputable def st130:Stmt:=stmtAt 14
noncomputable def st137:Stmt:=stmtAt 15
noncomputable def st142:Stmt:=stmtAt 16
noncomputable def st147:Stmt:=stmtAt 17
noncomputable def st81:Stmt:=methAt 0
noncomputable def st88:Stmt:=methAt 1
noncomputable def st95:Stmt:=methAt 2
noncomputable def st102:Stmt:=methAt 3
noncomputable def o2 (_P:Params):Obj:=⟨.none,none,.dict #[] 0,#[]⟩
noncomputable def o3 (P:Params):Obj:=⟨(.type "dict"),none,.dict #[en P (sg [95,95,110,97,109,101,95,95]) 165 (.str (sg [108,97,119,95,113,117,48,48,51,48,95,48,49]) 329),en P (sg [95,95,100,111,99,95,95]) 166 .none,en P (sg [95,95,112,97,99,107,97,103,101,95,95]) 167 .none,en P (sg [95,95,108,111,97,100,101,114,95,95]) 168 (.builtin "__main__.__loader__#opa\x71ue"),en P (sg [95,95,115,112,101,99,95,95]) 169 .none,en P (sg [95,95,97,110,110,111,116,97,116,105,111,110,115,95,95]) 170 (.ref 6),en P (sg [95,95,98,117,105,108,116,105,110,115,95,95]) 171 (.ref 4),en P (sg [95,95,102,105,108,101,95,95]) 173 (.str (sg [47,99,108,97,105,109,47,99,117,116,46,112,121]) 172),en P (sg [95,95,99,97,99,104,101,100,95,95]) 174 .none,en P (sg [104,101,97,112,112,117,115,104]) 196 (.ref 21),en P (sg [104,101,97,112,112,111,112]) 205 (.ref 28),en P (sg [104,101,97,112,114,101,112,108,97,99,101]) 214 (.ref 35),en P (sg [95,115,105,102,116,100,111,119,110]) 226 (.ref 42),en P (sg [95,115,105,102,116,117,112]) 239 (.ref 49),en P (sg [105,110,115,111,114,116,95,114,105,103,104,116]) 254 (.ref 58),en P (sg [98,105,115,101,99,116,95,114,105,103,104,116]) 268 (.ref 67),en P (sg [95,110,101,116,114,99,108,101,120]) 328 (.ref 105),en P (sg [95,108,97,119,95,108,101,120,101,114]) 339 (.ref 116),en P (sg [95,108,97,119,95,119,114,105,116,116,101,110]) 347 (.ref 123),en P (sg [95,108,97,119,95,104,101,97,112,95,108,101,100]) 363 (.ref 130),en P (sg [95,108,97,119,95,114,111,119,95,108,101,100]) 379 (.ref 137),en P (sg [95,108,97,119,95,109,111,115,116]) 385 (.ref 142),en P (sg [108,97,119]) 391 (.ref 147)] 23,#[]⟩
noncomputable def o4 (_P:Params):Obj:=⟨(.type "module"),some 0,.plain,#[]⟩
noncomputable def o20 (_P:Params):Obj:=⟨(.type "code"),none,.fields #[(.str (sg [104,101,97,112,112,117,115,104]) 189),(.str (sg [104,101,97,112,112,117,115,104]) 190),(.str (sg [47,99,108,97,105,109,47,99,117,116,46,112,121]) 191),(.int 2 0),(.int 2 0),(.int 0 0),(.int 0 0),(.int 3 0),(.ref 15),(.bool true),(.int 181 0),(.ref 16),.none,(.ref 17),(.ref 18),(.ref 19),(.int 194 0),(.int 2 0),(.str (sg [47,99,108,97,105,109,47,99,117,116,46,112,121]) 195)],#[]⟩
noncomputable def o21 (_P:Params):Obj:=fobj st21 (sg [104,101,97,112,112,117,115,104]) .none .none (.str (sg [99,112,121,51,49,51,46,104,101,97,112,113]) 187) 20
noncomputable def o27 (_P:Params):Obj:=⟨(.type "code"),none,.fields #[(.str (sg [104,101,97,112,112,111,112]) 197),(.str (sg [104,101,97,112,112,111,112]) 198),(.str (sg [47,99,108,97,105,109,47,99,117,116,46,112,121]) 199),(.int 5 0),(.int 1 0),(.int 0 0),(.int 0 0),(.int 3 0),(.ref 22),(.bool true),(.int 181 0),(.ref 23),.none,(.ref 24),(.ref 25),(.ref 26),(.int 203 0),(.int 5 0),(.str (sg [47,99,108,97,105,109,47,99,117,116,46,112,121]) 204)],#[]⟩
noncomputable def o28 (_P:Params):Obj:=fobj st28 (sg [104,101,97,112,112,111,112]) .none .none (.str (sg [99,112,121,51,49,51,46,104,101,97,112,113]) 187) 27
noncomputable def o34 (_P:Params):Obj:=⟨(.type "code"),none,.fields #[(.str (sg [104,101,97,112,114,101,112,108,97,99,101]) 206),(.str (sg [104,101,97,112,114,101,112,108,97,99,101]) 207),(.str (sg [47,99,108,97,105,109,47,99,117,116,46,112,121]) 208),(.int 13 0),(.int 2 0),(.int 0 0),(.int 0 0),(.int 3 0),(.ref 29),(.bool true),(.int 181 0),(.ref 30),.none,(.ref 31),(.ref 32),(.ref 33),(.int 212 0),(.int 13 0),(.str (sg [47,99,108,97,105,109,47,99,117,116,46,112,121]) 213)],#[]⟩
noncomputable def o35 (_P:Params):Obj:=fobj st35 (sg [104,101,97,112,114,101,112,108,97,99,101]) .none .none (.str (sg [99,112,121,51,49,51,46,104,101,97,112,113]) 187) 34
noncomputable def o41 (_P:Params):Obj:=⟨(.type "code"),none,.fields #[(.str (sg [95,115,105,102,116,100,111,119,110]) 215),(.str (sg [95,115,105,102,116,100,111,119,110]) 216),(.str (sg [47,99,108,97,105,109,47,99,117,116,46,112,121]) 217),(.int 18 0),(.int 3 0),(.int 0 0),(.int 0 0),(.int 3 0),(.ref 36),(.bool true),(.int 181 0),(.ref 37),.none,(.ref 38),(.ref 39),(.ref 40),(.int 224 0),(.int 18 0),(.str (sg [47,99,108,97,105,109,47,99,117,116,46,112,121]) 225)],#[]⟩
noncomputable def o42 (_P:Params):Obj:=fobj st42 (sg [95,115,105,102,116,100,111,119,110]) .none .none (.str (sg [99,112,121,51,49,51,46,104,101,97,112,113]) 187) 41
noncomputable def o48 (_P:Params):Obj:=⟨(.type "code"),none,.fields #[(.str (sg [95,115,105,102,116,117,112]) 227),(.str (sg [95,115,105,102,116,117,112]) 228),(.str (sg [47,99,108,97,105,109,47,99,117,116,46,112,121]) 229),(.int 29 0),(.int 2 0),(.int 0 0),(.int 0 0),(.int 3 0),(.ref 43),(.bool true),(.int 181 0),(.ref 44),.none,(.ref 45),(.ref 46),(.ref 47),(.int 237 0),(.int 29 0),(.str (sg [47,99,108,97,105,109,47,99,117,116,46,112,121]) 238)],#[]⟩
noncomputable def o49 (_P:Params):Obj:=fobj st49 (sg [95,115,105,102,116,117,112]) .none .none (.str (sg [99,112,121,51,49,51,46,104,101,97,112,113]) 187) 48
noncomputable def o50 (_P:Params):Obj:=⟨(.type "tuple"),none,.seq #[(.int 0 242),.none] 0,#[]⟩
noncomputable def o51 (P:Params):Obj:=⟨(.type "dict"),none,.dict #[en P (sg [107,101,121]) 243 .none] 1,#[]⟩
noncomputable def o57 (_P:Params):Obj:=⟨(.type "code"),none,.fields #[(.str (sg [105,110,115,111,114,116,95,114,105,103,104,116]) 244),(.str (sg [105,110,115,111,114,116,95,114,105,103,104,116]) 245),(.str (sg [47,99,108,97,105,109,47,99,117,116,46,112,121]) 246),(.int 44 0),(.int 4 0),(.int 0 0),(.int 1 0),(.int 3 0),(.ref 52),(.bool true),(.int 181 0),(.ref 53),.none,(.ref 54),(.ref 55),(.ref 56),(.int 252 0),(.int 44 0),(.str (sg [47,99,108,97,105,109,47,99,117,116,46,112,121]) 253)],#[]⟩
noncomputable def o58 (_P:Params):Obj:=fobj st58 (sg [105,110,115,111,114,116,95,114,105,103,104,116]) (.ref 50) (.ref 51) (.str (sg [99,112,121,51,49,51,46,98,105,115,101,99,116]) 240) 57
noncomputable def o59 (_P:Params):Obj:=⟨(.type "tuple"),none,.seq #[(.int 0 255),.none] 0,#[]⟩
noncomputable def o60 (P:Params):Obj:=⟨(.type "dict"),none,.dict #[en P (sg [107,101,121]) 256 .none] 1,#[]⟩
noncomputable def o66 (_P:Params):Obj:=⟨(.type "code"),none,.fields #[(.str (sg [98,105,115,101,99,116,95,114,105,103,104,116]) 257),(.str (sg [98,105,115,101,99,116,95,114,105,103,104,116]) 258),(.str (sg [47,99,108,97,105,109,47,99,117,116,46,112,121]) 259),(.int 50 0),(.int 4 0),(.int 0 0),(.int 1 0),(.int 3 0),(.ref 61),(.bool true),(.int 181 0),(.ref 62),.none,(.ref 63),(.ref 64),(.ref 65),(.int 266 0),(.int 50 0),(.str (sg [47,99,108,97,105,109,47,99,117,116,46,112,121]) 267)],#[]⟩
noncomputable def o67 (_P:Params):Obj:=fobj st67 (sg [98,105,115,101,99,116,95,114,105,103,104,116]) (.ref 59) (.ref 60) (.str (sg [99,112,121,51,49,51,46,98,105,115,101,99,116]) 240) 66
noncomputable def o80 (_P:Params):Obj:=⟨(.type "code"),none,.fields #[(.str (sg [95,95,105,110,105,116,95,95]) 283),(.str (sg [95,110,101,116,114,99,108,101,120,46,95,95,105,110,105,116,95,95]) 284),(.str (sg [47,99,108,97,105,109,47,99,117,116,46,112,121]) 285),(.int 73 0),(.int 2 0),(.int 0 0),(.int 0 0),(.int 3 0),(.ref 75),(.bool true),(.int 181 0),(.ref 76),.none,(.ref 77),(.ref 78),(.ref 79),(.int 288 0),(.int 73 0),(.str (sg [47,99,108,97,105,109,47,99,117,116,46,112,121]) 289)],#[]⟩
noncomputable def o81 (_P:Params):Obj:=fobj st81 (sg [95,110,101,116,114,99,108,101,120,46,95,95,105,110,105,116,95,95]) .none .none (.str (sg [99,112,121,51,49,51,46,110,101,116,114,99]) 269) 80
noncomputable def o87 (_P:Params):Obj:=⟨(.type "code"),none,.fields #[(.str (sg [95,114,101,97,100,95,99,104,97,114]) 291),(.str (sg [95,110,101,116,114,99,108,101,120,46,95,114,101,97,100,95,99,104,97,114]) 292),(.str (sg [47,99,108,97,105,109,47,99,117,116,46,112,121]) 293),(.int 79 0),(.int 1 0),(.int 0 0),(.int 0 0),(.int 3 0),(.ref 82),(.bool true),(.int 181 0),(.ref 83),.none,(.ref 84),(.ref 85),(.ref 86),(.int 296 0),(.int 79 0),(.str (sg [47,99,108,97,105,109,47,99,117,116,46,112,121]) 297)],#[]⟩
noncomputable def o88 (_P:Params):Obj:=fobj st88 (sg [95,110,101,116,114,99,108,101,120,46,95,114,101,97,100,95,99,104,97,114]) .none .none (.str (sg [99,112,121,51,49,51,46,110,101,116,114,99]) 269) 87
noncomputable def o94 (_P:Params):Obj:=⟨(.type "code"),none,.fields #[(.str (sg [103,101,116,95,116,111,107,101,110]) 299),(.str (sg [95,110,101,116,114,99,108,101,120,46,103,101,116,95,116,111,107,101,110]) 300),(.str (sg [47,99,108,97,105,109,47,99,117,116,46,112,121]) 301),(.int 85 0),(.int 1 0),(.int 0 0),(.int 0 0),(.int 3 0),(.ref 89),(.bool true),(.int 181 0),(.ref 90),.none,(.ref 91),(.ref 92),(.ref 93),(.int 306 0),(.int 85 0),(.str (sg [47,99,108,97,105,109,47,99,117,116,46,112,121]) 307)],#[]⟩
noncomputable def o95 (_P:Params):Obj:=fobj st95 (sg [95,110,101,116,114,99,108,101,120,46,103,101,116,95,116,111,107,101,110]) .none .none (.str (sg [99,112,121,51,49,51,46,110,101,116,114,99]) 269) 94
noncomputable def o101 (_P:Params):Obj:=⟨(.type "code"),none,.fields #[(.str (sg [112,117,115,104,95,116,111,107,101,110]) 309),(.str (sg [95,110,101,116,114,99,108,101,120,46,112,117,115,104,95,116,111,107,101,110]) 310),(.str (sg [47,99,108,97,105,109,47,99,117,116,46,112,121]) 311),(.int 112 0),(.int 2 0),(.int 0 0),(.int 0 0),(.int 3 0),(.ref 96),(.bool true),(.int 181 0),(.ref 97),.none,(.ref 98),(.ref 99),(.ref 100),(.int 314 0),(.int 112 0),(.str (sg [47,99,108,97,105,109,47,99,117,116,46,112,121]) 315)],#[]⟩
noncomputable def o102 (_P:Params):Obj:=fobj st102 (sg [95,110,101,116,114,99,108,101,120,46,112,117,115,104,95,116,111,107,101,110]) .none .none (.str (sg [99,112,121,51,49,51,46,110,101,116,114,99]) 269) 101
noncomputable def o104 (P:Params):Obj:=⟨(.type "dict"),none,.dict #[en P (sg [95,95,109,111,100,117,108,101,95,95]) 278 (.str (sg [99,112,121,51,49,51,46,110,101,116,114,99]) 269),en P (sg [95,95,102,105,114,115,116,108,105,110,101,110,111,95,95]) 282 (.int 71 281),en P (sg [95,95,105,110,105,116,95,95]) 290 (.ref 81),en P (sg [95,114,101,97,100,95,99,104,97,114]) 298 (.ref 88),en P (sg [103,101,116,95,116,111,107,101,110]) 308 (.ref 95),en P (sg [112,117,115,104,95,116,111,107,101,110]) 316 (.ref 102),en P (sg [95,95,115,116,97,116,105,99,95,97,116,116,114,105,98,117,116,101,115,95,95]) 321 (.ref 103),en P (sg [95,95,100,105,99,116,95,95]) 323 (.ref 106),en P (sg [95,95,119,101,97,107,114,101,102,95,95]) 325 (.ref 107),en P (sg [95,95,100,111,99,95,95]) 326 .none] 4,#[]⟩
noncomputable def o105 (_P:Params):Obj:=⟨(.type "type"),none,.cls { name:=(sg [95,110,101,116,114,99,108,101,120]),bases:=[(.type "object")],mro:=[(.ref 105),(.type "object")],ns:=104,qualname:=(sg [95,110,101,116,114,99,108,101,120]),hasDict:=true,slotNames:=[],subclasses:=[],abstract:=false,collection:=none,hasDel:=false },#[none,none,some (.str (sg [95,110,101,116,114,99,108,101,120]) 271),some (.str (sg [95,110,101,116,114,99,108,101,120]) 279),some (.builtin "object.__new__"),some (.bool true)]⟩
noncomputable def o115 (_P:Params):Obj:=⟨(.type "code"),none,.fields #[(.str (sg [95,108,97,119,95,108,101,120,101,114]) 331),(.str (sg [95,108,97,119,95,108,101,120,101,114]) 332),(.str (sg [47,99,108,97,105,109,47,99,117,116,46,112,121]) 333),(.int 115 0),(.int 1 0),(.int 0 0),(.int 0 0),(.int 3 0),(.ref 110),(.bool true),(.int 181 0),(.ref 111),.none,(.ref 112),(.ref 113),(.ref 114),(.int 337 0),(.int 115 0),(.str (sg [47,99,108,97,105,109,47,99,117,116,46,112,121]) 338)],#[]⟩
noncomputable def o116 (_P:Params):Obj:=fobj st116 (sg [95,108,97,119,95,108,101,120,101,114]) .none .none (.str (sg [108,97,119,95,113,117,48,48,51,48,95,48,49]) 329) 115
noncomputable def o122 (_P:Params):Obj:=⟨(.type "code"),none,.fields #[(.str (sg [95,108,97,119,95,119,114,105,116,116,101,110]) 340),(.str (sg [95,108,97,119,95,119,114,105,116,116,101,110]) 341),(.str (sg [47,99,108,97,105,109,47,99,117,116,46,112,121]) 342),(.int 121 0),(.int 2 0),(.int 0 0),(.int 0 0),(.int 3 0),(.ref 117),(.bool true),(.int 181 0),(.ref 118),.none,(.ref 119),(.ref 120),(.ref 121),(.int 345 0),(.int 121 0),(.str (sg [47,99,108,97,105,109,47,99,117,116,46,112,121]) 346)],#[]⟩
noncomputable def o123 (_P:Params):Obj:=fobj st123 (sg [95,108,97,119,95,119,114,105,116,116,101,110]) .none .none (.str (sg [108,97,119,95,113,117,48,48,51,48,95,48,49]) 329) 122
noncomputable def o129 (_P:Params):Obj:=⟨(.type "code"),none,.fields #[(.str (sg [95,108,97,119,95,104,101,97,112,95,108,101,100]) 348),(.str (sg [95,108,97,119,95,104,101,97,112,95,108,101,100]) 349),(.str (sg [47,99,108,97,105,109,47,99,117,116,46,112,121]) 350),(.int 125 0),(.int 3 0),(.int 0 0),(.int 0 0),(.int 3 0),(.ref 124),(.bool true),(.int 181 0),(.ref 125),.none,(.ref 126),(.ref 127),(.ref 128),(.int 361 0),(.int 125 0),(.str (sg [47,99,108,97,105,109,47,99,117,116,46,112,121]) 362)],#[]⟩
noncomputable def o130 (_P:Params):Obj:=fobj st130 (sg [95,108,97,119,95,104,101,97,112,95,108,101,100]) .none .none (.str (sg [108,97,119,95,113,117,48,48,51,48,95,48,49]) 329) 129
noncomputable def o136 (_P:Params):Obj:=⟨(.type "code"),none,.fields #[(.str (sg [95,108,97,119,95,114,111,119,95,108,101,100]) 364),(.str (sg [95,108,97,119,95,114,111,119,95,108,101,100]) 365),(.str (sg [47,99,108,97,105,109,47,99,117,116,46,112,121]) 366),(.int 145 0),(.int 3 0),(.int 0 0),(.int 0 0),(.int 3 0),(.ref 131),(.bool true),(.int 181 0),(.ref 132),.none,(.ref 133),(.ref 134),(.ref 135),(.int 377 0),(.int 145 0),(.str (sg [47,99,108,97,105,109,47,99,117,116,46,112,121]) 378)],#[]⟩
noncomputable def o137 (_P:Params):Obj:=fobj st137 (sg [95,108,97,119,95,114,111,119,95,108,101,100]) .none .none (.str (sg [108,97,119,95,113,117,48,48,51,48,95,48,49]) 329) 136
noncomputable def o141 (_P:Params):Obj:=⟨(.type "code"),none,.fields #[(.str (sg [95,108,97,119,95,109,111,115,116]) 380),(.str (sg [95,108,97,119,95,109,111,115,116]) 381),(.str (sg [47,99,108,97,105,109,47,99,117,116,46,112,121]) 382),(.int 161 0),(.int 2 0),(.int 0 0),(.int 0 0),(.int 3 0),(.ref 138),(.bool true),(.int 181 0),(.ref 139),.none,.none,.none,(.ref 140),(.int 383 0),(.int 161 0),(.str (sg [47,99,108,97,105,109,47,99,117,116,46,112,121]) 384)],#[]⟩
noncomputable def o142 (_P:Params):Obj:=fobj st142 (sg [95,108,97,119,95,109,111,115,116]) .none .none (.str (sg [108,97,119,95,113,117,48,48,51,48,95,48,49]) 329) 141
noncomputable def o146 (_P:Params):Obj:=⟨(.type "code"),none,.fields #[(.str (sg [108,97,119]) 386),(.str (sg [108,97,119]) 387),(.str (sg [47,99,108,97,105,109,47,99,117,116,46,112,121]) 388),(.int 172 0),(.int 1 0),(.int 0 0),(.int 0 0),(.int 3 0),(.ref 143),(.bool true),(.int 181 0),(.ref 144),.none,.none,.none,(.ref 145),(.int 389 0),(.int 172 0),(.str (sg [47,99,108,97,105,109,47,99,117,116,46,112,121]) 390)],#[]⟩
noncomputable def o147 (_P:Params):Obj:=fobj st147 (sg [108,97,119]) .none .none (.str (sg [108,97,119,95,113,117,48,48,51,48,95,48,49]) 329) 146
noncomputable def FT (b:Bool) (P:Params):Params:={ P with followText:=fun r=>match r == "special-get-raises" with | true=>b | false=>P.followText r }
noncomputable def topL (P:Params):List (Nat × Obj):=[(3,o3 P),(0,boot_o_0 P),(2,o2 P),(105,o105 P),(104,o104 P),(4,o4 P),(20,o20 P),(21,o21 P),(27,o27 P),(28,o28 P),(34,o34 P),(35,o35 P),(41,o41 P),(42,o42 P),(48,o48 P),(49,o49 P),(50,o50 P),(51,o51 P),(57,o57 P),(58,o58 P),(59,o59 P),(60,o60 P),(66,o66 P),(67,o67 P),(80,o80 P),(81,o81 P),(87,o87 P),(88,o88 P),(94,o94 P),(95,o95 P),(101,o101 P),(102,o102 P),(115,o115 P),(116,o116 P),(122,o122 P),(123,o123 P),(129,o129 P),(130,o130 P),(136,o136 P),(137,o137 P),(141,o141 P),(142,o142 P),(146,o146 P),(147,o147 P)]
noncomputable def lookT:List (Nat × Obj) → Nat → Option Obj
  | [],_=>none
  | p :: r,a=>match Nat.beq p.1 a with
    | true=>some p.2
    | false=>lookT r a
theorem lookT_mem {a:Nat} {o:Obj}:∀ {l:List (Nat × Obj)},lookT l a = some o → (a,o) ∈ l
  | p :: r,h=>by
    rw [lookT] at h
    cases q:Nat.beq p.1 a with
    | true=>
      rw [q] at h
      have:p.1 = a:=Nat.eq_of_beq_eq_true q
      cases h
      rw [← this]; exact .head _
    | false=>rw [q] at h; exact .tail _ (lookT_mem h)
noncomputable def Dq:Code → Sem Fin:=PySem.W.Fast.tw11892475500146522536 PySem.W.Fast.tw14364793385576792824
theorem Dq_eq:Dq = denote table:=by
  unfold Dq
  rw [← PySem.W.Fast.te11892475500146522536,← PySem.W.Fast.te14364793385576792824,PySem.table_eq_tree]
noncomputable def cfg (b:Bool) (P:Params):Cf where
  D:=Dq
  S:=⟨PG,FT b P⟩
  top:=lookT (topL (FT b P))
  q:=PySem.W.ZFast.zw17772548960776305114
  wt:=PySem.W.ZFast.zw1243936422450756474
  un:=PySem.W.Fast.tw165980757501359005
theorem cfg_ok (b:Bool) {w:World} (h:w.params = FT b w.params):(cfg b w.params).Ok PG w where
  D:=Dq_eq
  S:=by show (⟨_,FT b w.params⟩:Setting) = _; rw [← h]
  q:=PySem.W.ZFast.ze17772548960776305114.symm
  wt:=PySem.W.ZFast.ze1243936422450756474.symm
  un:=PySem.W.Fast.te165980757501359005.symm
end Mine
end
section
namespace Mine
/-! Fits in a small form: both values of b at once,the addresses and the cuts read off the family,the answers' types inhabited -/
noncomputable def Fam.Inh:Fam → Nat → Prop
  | .fin _ _ _ _,_=>True
  | .ask Z _ _ _ _,0=>Nonempty Z
  | .ask _ _ _ _ next,i + 1=>∀ z,(next z).Inh i
  | .stk next,i=>∀ p b,(next p b).Inh i
noncomputable def Fam.Done:Fam → Nat → Prop
  | .fin _ _ _ _,_=>True
  | .ask _ _ _ _ _,0=>False
  | .ask _ _ _ _ next,i + 1=>∀ z,(next z).Done i
  | .stk next,i=>∀ p b,(next p b).Done i
noncomputable def Fam.Inhs (F:Fam):Nat → Nat → Prop
  | 0,i=>F.Done i
  | k + 1,i=>F.Inh i ∧ F.Inhs k (i + 1)
theorem done_inh:∀ {F:Fam} {n:Nat},F.Done n → ∀ i,n ≤ i → F.Inh i
  | .fin _ _ _ _,_,_,_,_=>trivial
  | .ask _ _ _ _ _,0,h,_,_=>h.elim
  | .ask _ _ _ _ _,_ + 1,h,i + 1,hi=>fun z=>done_inh (h z) i (Nat.le_of_succ_le_succ hi)
  | .stk _,_,h,i,hi=>fun p b=>done_inh (h p b) i hi
theorem inhs_all {F:Fam}:∀ (k i:Nat),F.Inhs k i → (∀ j,j < i → F.Inh j) → ∀ j,F.Inh j
  | 0,i,h,hj,j=>(Nat.lt_or_ge j i).elim (hj j) (done_inh h j)
  | k + 1,i,h,hj,j=>inhs_all k (i + 1) h.2 (fun j' h'=>(Nat.lt_or_ge j' i).elim (hj j') fun q=>by
      have:j' = i:=by omega
      rw [this]; exact h.1) j
noncomputable def Fam.Ty (F:Fam):Type:=@Fam.rec (fun _=>Type) (fun _ _ _ _=>Option Out × Option Out) (fun Z _ _ _ _ ih=>(z:Z) → ih z) (fun _ ih=>(p:Pos) → (b:List (Code × Pos)) → ih p b) F
noncomputable def Fam.lhs (F:Fam):(List Ans → Option Out) → (List Ans → Option Out) → F.Ty:=
  @Fam.rec (fun F=>(List Ans → Option Out) → (List Ans → Option Out) → F.Ty) (fun _ _ _ _ g g'=>(g [],g' [])) (fun _ e ix o _ ih g g' z=>ih z (fun os=>g (.cut e ⟨ix,o z⟩ :: os)) (fun os=>g' (.cut e ⟨ix,o z⟩ :: os)))
    (fun _ ih g g' p b=>ih p b (fun os=>g (.stk p b :: os)) (fun os=>g' (.stk p b :: os))) F
noncomputable def Fam.rhs (m:List Nat) (F:Fam):List Obs → F.Ty:=
  @Fam.rec (fun F=>List Obs → F.Ty) (fun r L N T acc=>(some ⟨r,L,N,T,exps (L.map (·.1)) m [],exps (L.map (·.1)) m [],acc,acc⟩,some ⟨r,L,N,T,exps (L.map (·.1)) m [],exps (L.map (·.1)) m [],acc,acc⟩)) (fun _ e _ _ _ ih acc z=>ih z (e :: acc)) (fun _ ih acc p b=>ih p b acc) F
noncomputable def Fam.lh (P:Params) (n:Nat) (m ctl:List Nat) (c:Code) (t:Sem Fin) (L:Led) (N T:Nat) (F:Fam):F.Ty:=F.lhs (fun os=>run (cfg true P) n m ctl os c .base t L N T [] [] [] []) (fun os=>run (cfg false P) n m ctl os c .base t L N T [] [] [] [])
theorem fit {m:List Nat}:∀ {F:Fam} {acc:List Obs} {g g':List Ans → Option Out},F.lhs g g' = F.rhs m acc → (∀ i,F.Inh i) → F.Fits g ∧ F.Fits g'
  | .fin _ _ _ _,_,_,_,h,_=>⟨⟨_,_,congrArg Prod.fst h⟩,⟨_,_,congrArg Prod.snd h⟩⟩
  | .ask _ _ _ _ _,_,_,_,h,hi=>⟨⟨hi 0,fun z=>(fit (congrFun h z) fun i=>hi (i + 1) z).1⟩,⟨hi 0,fun z=>(fit (congrFun h z) fun i=>hi (i + 1) z).2⟩⟩
  | .stk _,_,_,_,h,hi=>⟨fun p b=>(fit (congrFun (congrFun h p) b) fun i=>hi i p b).1,fun p b=>(fit (congrFun (congrFun h p) b) fun i=>hi i p b).2⟩
noncomputable abbrev CG (w:World) (b:Bool) (d u:Nat) (c:Code) (rd:Led) (N T:Nat) {Z:Type} (o:Z → Pst):Prop:=Con PG w (cfg b w.params) d u c rd N T o
noncomputable abbrev Sx (b:Bool) (P:Params) (n:Nat) (m ctl:List Nat) (c:Code) (t:Sem Fin) (L:Led) (N T:Nat) (F:Fam):Prop:=F.Fits fun os=>run (cfg b P) n m ctl os c .base t L N T [] [] [] []
noncomputable abbrev Sg (b:Bool) (P:Params) (n:Nat) (m ctl:List Nat) (c:Code) (L:Led) (N T:Nat) (F:Fam):Prop:=F.Fits fun os=>run (cfg b P) n m ctl os c .base (Dq c) L N T [] [] [] []
theorem fx {b:Bool} {P:Params} {n:Nat} {m ctl:List Nat} {c:Code} {t:Sem Fin} {L:Led} {N T:Nat} {F:Fam} (k:Nat) (h0:F.Inhs k 0) (h:F.lh P n m ctl c t L N T = F.rhs m []):Sx b P n m ctl c t L N T F:=by
  have z:=fit h (inhs_all k 0 h0 fun j hj=>(Nat.not_lt_zero j hj).elim)
  cases b with
  | true=>exact z.1
  | false=>exact z.2
section
variable (prog:Program) (w:World) (C:Cf) (A₀:Around) (W:Want) (S:List Addr) (h₀:Heap) (g:Array GenState) (d:Drawn) (os:OsState)
noncomputable def Fam.HAsk:Fam → Nat → Prop
  | .fin _ _ _ _,_=>True
  | .ask _ e ix o _,0=>ix.Nodup ∧ Con prog w C (A₀.depth + e.dw) (A₀.units + e.du) e.c e.rd e.N e.T o
  | .ask _ _ _ _ next,i + 1=>∀ z,(next z).HAsk i
  | .stk next,i=>∀ p b,(next p b).HAsk i
noncomputable def Fam.HEnd:Fam → Prop
  | .fin r L N T=>∀ h,Rep C S h₀ L h → h.objs.size = N → FinOk W r ⟨h,g,d,T,os⟩
  | .ask _ _ _ _ next=>∀ z,(next z).HEnd
  | .stk next=>∀ p b,(next p b).HEnd
noncomputable def Fam.HAll (F:Fam):Nat → Nat → Prop
  | 0,i=>F.Done i ∧ F.HEnd C W S h₀ g d os
  | k + 1,i=>F.HAsk prog w C A₀ i ∧ F.HAll k (i + 1)
end
section
variable {prog:Program} {w:World} {C:Cf} {A₀:Around} {W:Want} {S:List Addr} {h₀:Heap} {g:Array GenState} {d:Drawn} {os:OsState}
theorem done_hask:∀ {F:Fam} {n:Nat},F.Done n → ∀ i,n ≤ i → F.HAsk prog w C A₀ i
  | .fin _ _ _ _,_,_,_,_=>trivial
  | .ask _ _ _ _ _,0,h,_,_=>h.elim
  | .ask _ _ _ _ _,_ + 1,h,i + 1,hi=>fun z=>done_hask (h z) i (Nat.le_of_succ_le_succ hi)
  | .stk _,_,h,i,hi=>fun p b=>done_hask (h p b) i hi
theorem holds_all:∀ {F:Fam},(∀ i,F.HAsk prog w C A₀ i) → F.HEnd C W S h₀ g d os → F.Holds prog w C A₀ W S h₀ g d os
  | .fin _ _ _ _,_,h=>h
  | .ask _ _ _ _ _,ha,he=>⟨(ha 0).1,(ha 0).2,fun z=>holds_all (fun i=>ha (i + 1) z) (he z)⟩
  | .stk _,ha,he=>fun p b=>holds_all (fun i=>ha i p b) (he p b)
theorem hall_all {F:Fam}:∀ (k i:Nat),F.HAll prog w C A₀ W S h₀ g d os k i → (∀ j,j < i → F.HAsk prog w C A₀ j) → (∀ j,F.HAsk prog w C A₀ j) ∧ F.HEnd C W S h₀ g d os
  | 0,i,h,hj=>⟨fun j=>(Nat.lt_or_ge j i).elim (hj j) (done_hask h.1 j),h.2⟩
  | k + 1,i,h,hj=>hall_all k (i + 1) h.2 (fun j' h'=>(Nat.lt_or_ge j' i).elim (hj j') fun q=>by
      have:j' = i:=by omega
      rw [this]; exact h.1)
theorem HHx {F:Fam} (k:Nat) (h:F.HAll prog w C A₀ W S h₀ g d os k 0):F.Holds prog w C A₀ W S h₀ g d os:=
  have z:=hall_all k 0 h fun j hj=>(Nat.not_lt_zero j hj).elim
  holds_all z.1 z.2
end
noncomputable abbrev J0:Str:=sg [114,111,111,109]
noncomputable abbrev J1:Str:=sg [102,97,108,108,115]
noncomputable abbrev J2:Str:=sg [104,101,114,101]
noncomputable abbrev J3:Str:=sg [115,116,114,105,112]
noncomputable abbrev J4:Str:=sg [99,97,114,114,105,101,114]
noncomputable abbrev J5:Str:=sg [115,105,122,101]
noncomputable abbrev J6:Str:=sg [98,111,120,101,115]
noncomputable abbrev J7:Str:=sg [115,101,108,102]
noncomputable abbrev J8:Str:=sg [108,105,110,101]
noncomputable abbrev J9:Str:=sg [103,114,111,119,110]
noncomputable abbrev J10:Str:=sg []
noncomputable abbrev J11:Str:=sg [107,101,121]
noncomputable abbrev J12:Str:=sg [116,117,114,110]
noncomputable abbrev J13:Str:=sg [116,111,112,115]
noncomputable abbrev J14:Str:=sg [98,111,120]
noncomputable abbrev J15:Str:=sg [34]
noncomputable abbrev J16:Str:=sg [116,111,112]
noncomputable abbrev J17:Str:=sg [115,99,114,105,112,116]
noncomputable abbrev J18:Str:=sg [112,108,97,99,101]
noncomputable abbrev J19:Str:=sg [104,101,97,112]
noncomputable abbrev J20:Str:=sg [116,101,120,116]
noncomputable abbrev J21:Str:=sg [97]
noncomputable abbrev J22:Str:=sg [116,111,116,97,108]
noncomputable abbrev J23:Str:=sg [92]
noncomputable abbrev J24:Str:=sg [120]
noncomputable abbrev J25:Str:=sg [98,97,114,101]
noncomputable abbrev J26:Str:=sg [108,111]
noncomputable abbrev J27:Str:=sg [104,105]
noncomputable abbrev J28:Str:=sg [108,111,119]
noncomputable abbrev J29:Str:=sg [115,116,97,114,116,112,111,115]
noncomputable abbrev J30:Str:=sg [116,111,107,101,110]
noncomputable abbrev J31:Str:=sg [10]
noncomputable abbrev J32:Str:=sg [111,116,104,101,114]
noncomputable abbrev J33:Str:=sg [116,111,108,100]
noncomputable abbrev J34:Str:=sg [102,105,116,101,114]
noncomputable abbrev J35:Str:=sg [115,109,97,108,108]
noncomputable abbrev J36:Str:=sg [32]
noncomputable abbrev J37:Str:=sg [115,105,103,110,115]
noncomputable abbrev J38:Str:=sg [119,104,105,116,101,115,112,97,99,101]
noncomputable abbrev J39:Str:=sg [95,108,97,119,95,108,101,120,101,114,46,60,108,111,99,97,108,115,62,46,60,108,97,109,98,100,97,62]
noncomputable abbrev J40:Str:=sg [47,99,108,97,105,109,47,99,117,116,46,112,121]
noncomputable abbrev J41:Str:=sg [105,116,101,109]
noncomputable abbrev J42:Str:=sg [119,105,100,101]
noncomputable abbrev J43:Str:=sg [112,111,115]
noncomputable abbrev J44:Str:=sg [105,110,115,116,114,101,97,109]
noncomputable abbrev J45:Str:=sg [112,117,115,104,98,97,99,107]
noncomputable abbrev J46:Str:=sg [110,101,119,105,116,101,109]
noncomputable abbrev J47:Str:=sg [109,105,100]
noncomputable abbrev J48:Str:=sg [111,110,101]
noncomputable abbrev J49:Str:=sg [116,104,114,101,101]
noncomputable abbrev J50:Str:=sg [108,105,110,101,110,111]
noncomputable abbrev J51:Str:=sg [99,104]
noncomputable abbrev J52:Str:=sg [114,101,116,117,114,110,105,116,101,109]
noncomputable abbrev J53:Str:=sg [116,119,111]
noncomputable abbrev J54:Str:=sg [10,9,13,32]
noncomputable abbrev J55:Str:=sg [102,111,117,114]
noncomputable abbrev J56:Str:=sg [112,97,114,101,110,116,112,111,115]
noncomputable abbrev J57:Str:=sg [99,104,105,108,100,112,111,115]
noncomputable abbrev J58:Str:=sg [60,108,97,109,98,100,97,62]
noncomputable abbrev J59:Str:=sg [108,97,115,116,101,108,116]
end Mine
end
section
namespace Mine
noncomputable def ens (P:Params) (es:List (Str × Tok × Value)):List DictEntry:=es.map fun x=>en P x.1 x.2.1 x.2.2
noncomputable def frm (P:Params) (es:List (Str × Tok × Value)) (e:Nat):Obj:=⟨.type "frame",none,.dict ⟨ens P es⟩ e,#[]⟩
noncomputable def dct (P:Params) (es:List (Str × Tok × Value)) (e:Nat):Obj:=⟨.type "dict",none,.dict ⟨ens P es⟩ e,#[]⟩
noncomputable def lst (vs:List Value) (e:Nat):Obj:=⟨.type "list",none,.seq ⟨vs⟩ e,#[]⟩
noncomputable def tup (vs:List Value) (e:Nat):Obj:=⟨.type "tuple",none,.seq ⟨vs⟩ e,#[]⟩
noncomputable def cel (v:Option Value):Obj:=⟨.type "cell",none,.cell v,#[]⟩
noncomputable def fds (t:String) (vs:List Value):Obj:=⟨.type t,none,.fields ⟨vs⟩,#[]⟩
noncomputable abbrev LI (vs:List Value):Obj:=fds "list_iterator" vs
noncomputable abbrev RI (vs:List Value):Obj:=fds "range_iterator" vs
noncomputable def ins (c:Value) (d:Option Addr):Obj:=⟨c,d,.plain,#[]⟩
noncomputable def envOfF (st:Stmt) (q:Str) (f c:Addr) (cells:List (Str × Addr)) (L:Addr):Env:=
  { scope:=scopeOf st,locals:=L,globals:=3,cells:=cells,qual:=q++Str.ofString ".<locals>.",func:=some f,code:=.ref c,frame:=some L,builtins:=0 }
section
variable {prog:Program} {w:World} {C:Cf}
theorem rep_start {s:Shared} {rd:Led} (ht:TopIn C s.heap) (hh:HasL s.heap rd) (nd:(rd.map (·.1)).Nodup) (off:∀ p ∈ rd,C.top p.1 = none):Rep C (rd.map (·.1)) s.heap rd s.heap:=
  ⟨ht,hh,nd,off,fun _ _ e _=>e,fun _ hp=>.inl (List.mem_map_of_mem hp),Nat.le_refl _⟩
theorem aft_of_rep {s:Shared} {rd L' rest:Led} {h':Heap} {q:Pst} (D:Rep C (rd.map (·.1)) s.heap L' h') (hL:L' = (rd.map (·.1)).zip q.wr++rest) (hsz:h'.objs.size = q.N)
    (hn:∀ p ∈ q.nw,p ∈ L' ∧ s.heap.objs.size ≤ p.1) (nd:(q.nw.map (·.1)).Nodup):Aft s ⟨h',s.gens,s.drawn,q.T,s.os⟩ rd q where
  gens:=rfl
  drawn:=rfl
  os:=rfl
  toks:=rfl
  size:=hsz
  grow:=by rw [← hsz]; exact D.grow
  wr:=fun p hp=>D.has p (by rw [hL]; exact List.mem_append_left _ hp)
  nw:=fun p hp=>⟨D.has p (hn p hp).1,(hn p hp).2⟩
  nd:=nd
  keep:=D.keep
theorem aft_plain {s:Shared} {rd L' rest:Led} {h':Heap} {q:Pst} (D:Rep C (rd.map (·.1)) s.heap L' h') (hL:L' = (rd.map (·.1)).zip q.wr++rest) (hsz:h'.objs.size = q.N) (hn:q.nw = []) :
    Aft s ⟨h',s.gens,s.drawn,q.T,s.os⟩ rd q:=aft_of_rep D hL hsz (by rw [hn]; intro p hp; cases hp) (by rw [hn]; exact List.nodup_nil)
theorem Con.mono {d u d' u':Nat} {c:Code} {rd:Led} {N T:Nat} {Z:Type} {q:Z → Pst} (h:Con prog w C d u c rd N T q) (hd:d' ≤ d) (hu:u' ≤ u):Con prog w C d' u' c rd N T q:=
  fun A s hA a b=>h A s hA (Nat.le_trans a hd) (Nat.le_trans b hu)
theorem Con.conv {d u:Nat} {c:Code} {rd:Led} {N T:Nat} {Z Z':Type} {q:Z → Pst} {q':Z' → Pst} (h:Con prog w C d u c rd N T q) (e:∀ z,∃ z',q z = q' z'):Con prog w C d u c rd N T q':=
  fun A s hA a b t hh nd off hN hT=>codeAny_mono (h A s hA a b t hh nd off hN hT) fun r s' ⟨z,hr,B⟩=>by
    obtain ⟨z',e'⟩:=e z
    exact ⟨z',by rw [← e']; exact hr,by rw [← e']; exact B⟩
theorem code_run (O:C.Ok prog w) {A:Around} (hA:A.handled = none) {n:Nat} {F:Fam} {mem ctl:List Nat} {c:Code} {L:Led} {N T:Nat} {R:Result → Shared → Prop} {S:List Addr} {h₀ h:Heap} {g:Array GenState} {d:Drawn} {os:OsState}
    (hF:F.Fits fun os=>run C n mem ctl os c .base (C.D c) L N T [] [] [] []) (D:Rep C S h₀ L h) (hN:h.objs.size = N) (H:F.Holds prog w C A ⟨postC prog w A R,postE R⟩ S h₀ g d os) :
    codeAny (model prog w) A c R ⟨h,g,d,T,os⟩:=by
  have z:=sound O hA n hF D hN H
  rw [O.D] at z
  exact y_code _ _ _ _ _ _ z
noncomputable def statics:Obj:=⟨.none,none,.dict #[] 0,#[]⟩
theorem noLimit {h:Heap} (ht:TopIn C h) (h2:C.top 2 = some statics):h.NoLimit:=by
  have:=ht 2 _ h2
  refine ⟨fun _=>none,?_,rfl⟩
  exact ⟨_,#[],0,this,rfl,fun e he=>(by cases he with | mk h=>cases h),fun _=>rfl⟩
noncomputable def isText (v:Option Value) (q:Str):Bool:=match v with
  | some (.str x _)=>x == q
  | _=>false
theorem isText_eq {v:Option Value} {q:Str} (h:isText v q = true):∃ t,v = some (.str q t):=by
  unfold isText at h
  split at h
  · rename_i x t
    rw [beq_iff_eq.mp h]; exact ⟨t,rfl⟩
  · cases h
noncomputable def codeHas (o:Obj) (q:Str):Bool:=match o.data with
  | .fields vs=>isText (vs.toList[1]?) q
  | _=>false
theorem codeRec_of {h:Heap} {c:Addr} {o:Obj} {q:Str} (ho:h.get? c = some o) (e:codeHas o q = true):h.CodeRec (.ref c) q:=by
  unfold codeHas at e
  split at e
  · rename_i vs hv
    obtain ⟨t,ht⟩:=isText_eq e
    exact ⟨c,o,vs,t,rfl,ho,hv,by rw [← Array.getElem?_toList]; exact ht⟩
  · cases e
theorem con_call (O:C.Ok prog w) {d u:Nat} {f cd:Addr} {o oc:Obj} {fd:FuncData} {args:Args} {rd:Led} {N T:Nat} {Z:Type} {q:Z → Pst} {cF:Code} {L1:Led} {N1 T1 n1:Nat} {mem1:List Nat}
    (h2:C.top 2 = some statics) (ho:C.top f = some o) (hd:o.data = .func fd) (hcd:fd.code = .ref cd) (hoc:C.top cd = some oc) (hq:codeHas oc fd.qualname = true)
    (hco:fd.scope.isCoroutine = false) (hgen:fd.scope.isGenerator = false) (hroom:d < recursionLimit)
    (e1:(Fam.fin (.ok (.again cF)) L1 N1 T1).Fits fun os=>run C n1 mem1 [] os (.call (.ref f) args) .base (entryTree f fd args) [] N T [] [] [] [])
    (hb:∀ (A:Around) (s:Shared) (h:Heap),A.handled = none → A.depth ≤ d → A.units ≤ u → s.heap.objs.size = N → Rep C (rd.map (·.1)) s.heap (rd++L1) h → h.objs.size = N1 →
      codeAny (model prog w) A cF (fun r s'=>∃ z,r = (q z).f.res ∧ Aft s s' rd (q z)) ⟨h,s.gens,s.drawn,T1,s.os⟩) :
    Con prog w C d u (.call (.ref f) args) rd N T q:=by
  intro A s hz hA hu ht hh nd off hN hT
  refine call_enter (Nat.lt_of_le_of_lt hA hroom) (ht f o ho) hd hco hgen (by rw [hcd]; exact codeRec_of (ht cd oc hoc) hq) ?_
  have D:Rep C [] s.heap [] s.heap:=⟨ht,fun _ hp=>(by cases hp),List.nodup_nil,fun _ hp=>(by cases hp),fun _ _ e _=>e,fun _ hp=>(by cases hp),Nat.le_refl _⟩
  have z:=sound (F:=.fin (.ok (.again cF)) L1 N1 T1) (W:=⟨fun fin s'=>s'.heap.NoLimit ∧ postC prog w A (fun r s'=>∃ z,r = (q z).f.res ∧ Aft s s' rd (q z)) fin s',postE (fun r s'=>∃ z,r = (q z).f.res ∧ Aft s s' rd (q z))⟩)
    (A₀:=A) (g:=s.gens) (d:=s.drawn) (os:=s.os) O hz n1 e1 D hN (fun h D' hN' hq'=>⟨noLimit D'.top h2,hq',hb A s h hz hA hu hN ?_ hN'⟩)
  · subst hT
    exact z
  · have new:∀ p ∈ L1,s.heap.objs.size ≤ p.1:=fun p hp=>(D'.inS p hp).resolve_left (by intro q; cases q)
    refine ⟨D'.top,fun p hp=>?_,?_,fun p hp=>?_,fun b x e _=>D'.keep b x e (by intro q; cases q),fun p hp=>?_,D'.grow⟩
    · rcases List.mem_append.mp hp with q | q
      · exact D'.keep _ _ (hh p q) (by intro q; cases q)
      · exact D'.has p q
    · rw [List.map_append]
      refine List.nodup_append.mpr ⟨nd,D'.nodup,?_⟩
      intro a ha b hb
      obtain ⟨p,hp,rfl⟩:=List.mem_map.mp ha
      obtain ⟨p',hp',rfl⟩:=List.mem_map.mp hb
      exact Nat.ne_of_lt (Nat.lt_of_lt_of_le (Heap.lt_size (hh p hp)) (new p' hp'))
    · rcases List.mem_append.mp hp with q | q
      · exact off p q
      · exact D'.off p q
    · rcases List.mem_append.mp hp with q | q
      · exact .inl (List.mem_map_of_mem q)
      · exact .inr (new p q)
theorem con_call_led (O:C.Ok prog w) {d u:Nat} {f cd:Addr} {o oc:Obj} {fd:FuncData} {args:Args} {rd:Led} {N T:Nat} {Z:Type} {q:Z → Pst} {cF:Code} {L1:Led} {N1 T1 n1:Nat} {mem1:List Nat}
    (h2:C.top 2 = some statics) (ho:(f,o) ∈ rd) (hd:o.data = .func fd) (hcd:fd.code = .ref cd) (hoc:(cd,oc) ∈ rd) (hq:codeHas oc fd.qualname = true)
    (hco:fd.scope.isCoroutine = false) (hgen:fd.scope.isGenerator = false) (hroom:d < recursionLimit)
    (e1:(Fam.fin (.ok (.again cF)) L1 N1 T1).Fits fun os=>run C n1 mem1 [] os (.call (.ref f) args) .base (entryTree f fd args) [] N T [] [] [] [])
    (hb:∀ (A:Around) (s:Shared) (h:Heap),A.handled = none → A.depth ≤ d → A.units ≤ u → s.heap.objs.size = N → Rep C (rd.map (·.1)) s.heap (rd++L1) h → h.objs.size = N1 →
      codeAny (model prog w) A cF (fun r s'=>∃ z,r = (q z).f.res ∧ Aft s s' rd (q z)) ⟨h,s.gens,s.drawn,T1,s.os⟩) :
    Con prog w C d u (.call (.ref f) args) rd N T q:=by
  intro A s hz hA hu ht hh nd off hN hT
  refine call_enter (Nat.lt_of_le_of_lt hA hroom) (hh _ ho) hd hco hgen (by rw [hcd]; exact codeRec_of (hh _ hoc) hq) ?_
  have D:Rep C [] s.heap [] s.heap:=⟨ht,fun _ hp=>(by cases hp),List.nodup_nil,fun _ hp=>(by cases hp),fun _ _ e _=>e,fun _ hp=>(by cases hp),Nat.le_refl _⟩
  have z:=sound (F:=.fin (.ok (.again cF)) L1 N1 T1) (W:=⟨fun fin s'=>s'.heap.NoLimit ∧ postC prog w A (fun r s'=>∃ z,r = (q z).f.res ∧ Aft s s' rd (q z)) fin s',postE (fun r s'=>∃ z,r = (q z).f.res ∧ Aft s s' rd (q z))⟩)
    (A₀:=A) (g:=s.gens) (d:=s.drawn) (os:=s.os) O hz n1 e1 D hN (fun h D' hN' hq'=>⟨noLimit D'.top h2,hq',hb A s h hz hA hu hN ?_ hN'⟩)
  · subst hT
    exact z
  · have new:∀ p ∈ L1,s.heap.objs.size ≤ p.1:=fun p hp=>(D'.inS p hp).resolve_left (by intro q; cases q)
    refine ⟨D'.top,fun p hp=>?_,?_,fun p hp=>?_,fun b x e _=>D'.keep b x e (by intro q; cases q),fun p hp=>?_,D'.grow⟩
    · rcases List.mem_append.mp hp with q | q
      · exact D'.keep _ _ (hh p q) (by intro q; cases q)
      · exact D'.has p q
    · rw [List.map_append]
      refine List.nodup_append.mpr ⟨nd,D'.nodup,?_⟩
      intro a ha b hb
      obtain ⟨p,hp,rfl⟩:=List.mem_map.mp ha
      obtain ⟨p',hp',rfl⟩:=List.mem_map.mp hb
      exact Nat.ne_of_lt (Nat.lt_of_lt_of_le (Heap.lt_size (hh p hp)) (new p' hp'))
    · rcases List.mem_append.mp hp with q | q
      · exact off p q
      · exact D'.off p q
    · rcases List.mem_append.mp hp with q | q
      · exact .inl (List.mem_map_of_mem q)
      · exact .inr (new p q)
theorem bd {a d k m:Nat} (h:a ≤ d) (e:Nat.ble (d + k) m = true):a + k ≤ m:=Nat.le_trans (Nat.add_le_add_right h _) (Nat.le_of_ble_eq_true e)
theorem block_nil {A:Around} {env:Env} {R:Result → Shared → Prop} {s:Shared} (h:R (.ok .next) s):codeAny (model prog w) A (.block [] env) R s:=by
  refine x_code ?_
  show wpAny _ _ (do return Fin.done (← (execs [] env).onRaise _)) _ _ s
  exact wpAny_bind (wpAny_onRaise (wpAny_pure (wpAny_pure h)))
end
end Mine
end
section
namespace Mine
noncomputable def q21:Str:=(sg [104,101,97,112,112,117,115,104])
noncomputable def fd21:FuncData:=fdat st21 q21 .none .none (.str (sg [99,112,121,51,49,51,46,104,101,97,112,113]) 187) 20
noncomputable def env21 (L:Addr):Env:=envOfF st21 q21 21 20 [] L
noncomputable def cd21 (L:Addr):Code:=.func (bodyOf st21) (env21 L)
noncomputable def q28:Str:=(sg [104,101,97,112,112,111,112])
noncomputable def fd28:FuncData:=fdat st28 q28 .none .none (.str (sg [99,112,121,51,49,51,46,104,101,97,112,113]) 187) 27
noncomputable def env28 (L:Addr):Env:=envOfF st28 q28 28 27 [] L
noncomputable def cd28 (L:Addr):Code:=.func (bodyOf st28) (env28 L)
noncomputable def q35:Str:=(sg [104,101,97,112,114,101,112,108,97,99,101])
noncomputable def fd35:FuncData:=fdat st35 q35 .none .none (.str (sg [99,112,121,51,49,51,46,104,101,97,112,113]) 187) 34
noncomputable def env35 (L:Addr):Env:=envOfF st35 q35 35 34 [] L
noncomputable def cd35 (L:Addr):Code:=.func (bodyOf st35) (env35 L)
noncomputable def q42:Str:=(sg [95,115,105,102,116,100,111,119,110])
noncomputable def fd42:FuncData:=fdat st42 q42 .none .none (.str (sg [99,112,121,51,49,51,46,104,101,97,112,113]) 187) 41
noncomputable def env42 (L:Addr):Env:=envOfF st42 q42 42 41 [] L
noncomputable def cd42 (L:Addr):Code:=.func (bodyOf st42) (env42 L)
noncomputable def q49:Str:=(sg [95,115,105,102,116,117,112])
noncomputable def fd49:FuncData:=fdat st49 q49 .none .none (.str (sg [99,112,121,51,49,51,46,104,101,97,112,113]) 187) 48
noncomputable def env49 (L:Addr):Env:=envOfF st49 q49 49 48 [] L
noncomputable def cd49 (L:Addr):Code:=.func (bodyOf st49) (env49 L)
noncomputable def q58:Str:=(sg [105,110,115,111,114,116,95,114,105,103,104,116])
noncomputable def fd58:FuncData:=fdat st58 q58 (.ref 50) (.ref 51) (.str (sg [99,112,121,51,49,51,46,98,105,115,101,99,116]) 240) 57
noncomputable def env58 (L:Addr):Env:=envOfF st58 q58 58 57 [] L
noncomputable def cd58 (L:Addr):Code:=.func (bodyOf st58) (env58 L)
noncomputable def q67:Str:=(sg [98,105,115,101,99,116,95,114,105,103,104,116])
noncomputable def fd67:FuncData:=fdat st67 q67 (.ref 59) (.ref 60) (.str (sg [99,112,121,51,49,51,46,98,105,115,101,99,116]) 240) 66
noncomputable def env67 (L:Addr):Env:=envOfF st67 q67 67 66 [] L
noncomputable def cd67 (L:Addr):Code:=.func (bodyOf st67) (env67 L)
noncomputable def q81:Str:=(sg [95,110,101,116,114,99,108,101,120,46,95,95,105,110,105,116,95,95])
noncomputable def fd81:FuncData:=fdat st81 q81 .none .none (.str (sg [99,112,121,51,49,51,46,110,101,116,114,99]) 269) 80
noncomputable def env81 (L:Addr):Env:=envOfF st81 q81 81 80 [] L
noncomputable def cd81 (L:Addr):Code:=.func (bodyOf st81) (env81 L)
noncomputable def q88:Str:=(sg [95,110,101,116,114,99,108,101,120,46,95,114,101,97,100,95,99,104,97,114])
noncomputable def fd88:FuncData:=fdat st88 q88 .none .none (.str (sg [99,112,121,51,49,51,46,110,101,116,114,99]) 269) 87
noncomputable def env88 (L:Addr):Env:=envOfF st88 q88 88 87 [] L
noncomputable def cd88 (L:Addr):Code:=.func (bodyOf st88) (env88 L)
noncomputable def q95:Str:=(sg [95,110,101,116,114,99,108,101,120,46,103,101,116,95,116,111,107,101,110])
noncomputable def fd95:FuncData:=fdat st95 q95 .none .none (.str (sg [99,112,121,51,49,51,46,110,101,116,114,99]) 269) 94
noncomputable def env95 (L:Addr):Env:=envOfF st95 q95 95 94 [] L
noncomputable def cd95 (L:Addr):Code:=.func (bodyOf st95) (env95 L)
noncomputable def q102:Str:=(sg [95,110,101,116,114,99,108,101,120,46,112,117,115,104,95,116,111,107,101,110])
noncomputable def fd102:FuncData:=fdat st102 q102 .none .none (.str (sg [99,112,121,51,49,51,46,110,101,116,114,99]) 269) 101
noncomputable def env102 (L:Addr):Env:=envOfF st102 q102 102 101 [] L
noncomputable def cd102 (L:Addr):Code:=.func (bodyOf st102) (env102 L)
noncomputable def q116:Str:=(sg [95,108,97,119,95,108,101,120,101,114])
noncomputable def fd116:FuncData:=fdat st116 q116 .none .none (.str (sg [108,97,119,95,113,117,48,48,51,48,95,48,49]) 329) 115
noncomputable def env116 (L c:Addr):Env:=envOfF st116 q116 116 115 [((sg [115,105,103,110,115]),c)] L
noncomputable def cd116 (L c:Addr):Code:=.func (bodyOf st116) (env116 L c)
noncomputable def q123:Str:=(sg [95,108,97,119,95,119,114,105,116,116,101,110])
noncomputable def fd123:FuncData:=fdat st123 q123 .none .none (.str (sg [108,97,119,95,113,117,48,48,51,48,95,48,49]) 329) 122
noncomputable def env123 (L:Addr):Env:=envOfF st123 q123 123 122 [] L
noncomputable def cd123 (L:Addr):Code:=.func (bodyOf st123) (env123 L)
noncomputable def q130:Str:=(sg [95,108,97,119,95,104,101,97,112,95,108,101,100])
noncomputable def fd130:FuncData:=fdat st130 q130 .none .none (.str (sg [108,97,119,95,113,117,48,48,51,48,95,48,49]) 329) 129
noncomputable def env130 (L:Addr):Env:=envOfF st130 q130 130 129 [] L
noncomputable def cd130 (L:Addr):Code:=.func (bodyOf st130) (env130 L)
noncomputable def q137:Str:=(sg [95,108,97,119,95,114,111,119,95,108,101,100])
noncomputable def fd137:FuncData:=fdat st137 q137 .none .none (.str (sg [108,97,119,95,113,117,48,48,51,48,95,48,49]) 329) 136
noncomputable def env137 (L:Addr):Env:=envOfF st137 q137 137 136 [] L
noncomputable def cd137 (L:Addr):Code:=.func (bodyOf st137) (env137 L)
noncomputable def q142:Str:=(sg [95,108,97,119,95,109,111,115,116])
noncomputable def fd142:FuncData:=fdat st142 q142 .none .none (.str (sg [108,97,119,95,113,117,48,48,51,48,95,48,49]) 329) 141
noncomputable def env142 (L c:Addr):Env:=envOfF st142 q142 142 141 [((sg [98,101,115,116]),c)] L
noncomputable def cd142 (L c:Addr):Code:=.func (bodyOf st142) (env142 L c)
noncomputable def q147:Str:=(sg [108,97,119])
noncomputable def fd147:FuncData:=fdat st147 q147 .none .none (.str (sg [108,97,119,95,113,117,48,48,51,48,95,48,49]) 329) 146
noncomputable def env147 (L c:Addr):Env:=envOfF st147 q147 147 146 [((sg [108,105,110,101]),c)] L
noncomputable def cd147 (L c:Addr):Code:=.func (bodyOf st147) (env147 L c)
noncomputable def lamE (k:Nat):Expr:=match (bodyOf st116).getD (k + 2) (.Pass ⟨0,0,0,0⟩) with
  | .Assign _ v _=>v
  | _=>.Name (sg []) ⟨0,0,0,0⟩
noncomputable def lamArgs:Expr → Arguments
  | .Lambda a _ _ _=>a
  | _=>default
noncomputable def lamBody:Expr → Expr
  | .Lambda _ b _ _=>b
  | e=>e
noncomputable def lamScope:Expr → Scope
  | .Lambda _ _ s _=>s
  | _=>default
noncomputable def qLam:Str:=sg [95,108,97,119,95,108,101,120,101,114,46,60,108,111,99,97,108,115,62,46,60,108,97,109,98,100,97,62]
noncomputable def nLam:Str:=sg [60,108,97,109,98,100,97,62]
noncomputable def fdLam (k:Nat) (cl:List (Str × Addr)) (ct:Value) (cod:Addr):FuncData:=
  { name:=nLam,qualname:=qLam,params:=lamArgs (lamE k),body:=.expr (lamBody (lamE k)),scope:=lamScope (lamE k),globals:=3,closure:=cl,defaults:=.none,kwdefaults:=.none,doc:=.none,pyModule:=.str (sg [108,97,119,95,113,117,48,48,51,48,95,48,49]) 329,annotations:=none,code:=.ref cod,closureTuple:=ct,builtins:=0 }
noncomputable def lamF (k:Nat) (cl:List (Str × Addr)) (ct:Value) (cod:Addr) (d:Option Addr):Obj:=⟨.type "function",d,.func (fdLam k cl ct cod),#[]⟩
noncomputable def lamT (k:Nat):Obj:=⟨.none,none,.func { name:=nLam,qualname:=qLam,params:=lamArgs (lamE k),body:=.expr (lamBody (lamE k)),scope:=lamScope (lamE k),globals:=0,closure:=[],defaults:=.none,kwdefaults:=.none },#[]⟩
noncomputable def nSigns:Str:=sg [115,105,103,110,115]
noncomputable def envLam (rf cod cl L:Addr):Env:=
  { scope:=lamScope (lamE 1),locals:=L,globals:=3,cells:=[(nSigns,cl)],qual:=qLam++Str.ofString ".<locals>.",func:=some rf,code:=.ref cod,frame:=some L,builtins:=0 }
noncomputable def cdLam (rf cod cl L:Addr):Code:=.expr (lamBody (lamE 1)) (envLam rf cod cl L)
end Mine
end
section
namespace Mine
section
variable (b:Bool) (P:Params) (N T:Nat)
theorem ent21 (v1 v2:Value):Sx b P 15 [1,1,1,1] [] (.call (.ref 21) ⟨[v1,v2],[]⟩) (entryTree 21 fd21 ⟨[v1,v2],[]⟩) [] N T (.fin (.ok (.again (cd21 N))) [(N,(frm P [(J19,T,v1),(J41,(T + 1),v2)] 2))] (N + 1) (T + 2)):=fx 0 trivial (by kernel_rfl)
theorem ent28 (v1:Value):Sx b P 11 [1,1] [] (.call (.ref 28) ⟨[v1],[]⟩) (entryTree 28 fd28 ⟨[v1],[]⟩) [] N T (.fin (.ok (.again (cd28 N))) [(N,(frm P [(J19,T,v1)] 1))] (N + 1) (T + 1)):=fx 0 trivial (by kernel_rfl)
theorem ent35 (v1 v2:Value):Sx b P 15 [1,1,1,1] [] (.call (.ref 35) ⟨[v1,v2],[]⟩) (entryTree 35 fd35 ⟨[v1,v2],[]⟩) [] N T (.fin (.ok (.again (cd35 N))) [(N,(frm P [(J19,T,v1),(J41,(T + 1),v2)] 2))] (N + 1) (T + 2)):=fx 0 trivial (by kernel_rfl)
theorem ent42 (v1 v2 v3:Value):Sx b P 19 [1,1,1,1,1,1] [] (.call (.ref 42) ⟨[v1,v2,v3],[]⟩) (entryTree 42 fd42 ⟨[v1,v2,v3],[]⟩) [] N T (.fin (.ok (.again (cd42 N))) [(N,(frm P [(J19,T,v1),(J29,(T + 1),v2),(J43,(T + 2),v3)] 3))] (N + 1) (T + 3)):=fx 0 trivial (by kernel_rfl)
theorem ent49 (v1 v2:Value):Sx b P 15 [1,1,1,1] [] (.call (.ref 49) ⟨[v1,v2],[]⟩) (entryTree 49 fd49 ⟨[v1,v2],[]⟩) [] N T (.fin (.ok (.again (cd49 N))) [(N,(frm P [(J19,T,v1),(J43,(T + 1),v2)] 2))] (N + 1) (T + 2)):=fx 0 trivial (by kernel_rfl)
theorem ent58 (v1 v2:Value):Sx b P 29 [0,0,1,1,1,1,1,1,1,1,1,1] [] (.call (.ref 58) ⟨[v1,v2],[]⟩) (entryTree 58 fd58 ⟨[v1,v2],[]⟩) [] N T (.fin (.ok (.again (cd58 N))) [(N,(frm P [(J21,T,v1),(J24,(T + 1),v2),(J26,(T + 2),(.int 0 242)),(J27,(T + 3),.none),(J11,(T + 4),.none)] 5))] (N + 1) (T + 5)):=fx 0 trivial (by kernel_rfl)
theorem ent67 (v1 v2:Value):Sx b P 29 [0,0,1,1,1,1,1,1,1,1,1,1] [] (.call (.ref 67) ⟨[v1,v2],[]⟩) (entryTree 67 fd67 ⟨[v1,v2],[]⟩) [] N T (.fin (.ok (.again (cd67 N))) [(N,(frm P [(J21,T,v1),(J24,(T + 1),v2),(J26,(T + 2),(.int 0 255)),(J27,(T + 3),.none),(J11,(T + 4),.none)] 5))] (N + 1) (T + 5)):=fx 0 trivial (by kernel_rfl)
theorem ent67x (v1 v2 v3 v4:Value):Sx b P 29 [0,0,1,1,1,1,1,1,1,1,1,1] [] (.call (.ref 67) ⟨[v1,v2,v3,v4],[]⟩) (entryTree 67 fd67 ⟨[v1,v2,v3,v4],[]⟩) [] N T (.fin (.ok (.again (cd67 N))) [(N,(frm P [(J21,T,v1),(J24,(T + 1),v2),(J26,(T + 2),v3),(J27,(T + 3),v4),(J11,(T + 4),.none)] 5))] (N + 1) (T + 5)):=fx 0 trivial (by kernel_rfl)
theorem ent81 (v1 v2:Value):Sx b P 15 [1,1,1,1] [] (.call (.ref 81) ⟨[v1,v2],[]⟩) (entryTree 81 fd81 ⟨[v1,v2],[]⟩) [] N T (.fin (.ok (.again (cd81 N))) [(N,(frm P [(J7,T,v1),((sg [102,112]),(T + 1),v2)] 2))] (N + 1) (T + 2)):=fx 0 trivial (by kernel_rfl)
theorem ent88 (v1:Value):Sx b P 11 [1,1] [] (.call (.ref 88) ⟨[v1],[]⟩) (entryTree 88 fd88 ⟨[v1],[]⟩) [] N T (.fin (.ok (.again (cd88 N))) [(N,(frm P [(J7,T,v1)] 1))] (N + 1) (T + 1)):=fx 0 trivial (by kernel_rfl)
theorem ent95 (v1:Value):Sx b P 11 [1,1] [] (.call (.ref 95) ⟨[v1],[]⟩) (entryTree 95 fd95 ⟨[v1],[]⟩) [] N T (.fin (.ok (.again (cd95 N))) [(N,(frm P [(J7,T,v1)] 1))] (N + 1) (T + 1)):=fx 0 trivial (by kernel_rfl)
theorem ent102 (v1 v2:Value):Sx b P 15 [1,1,1,1] [] (.call (.ref 102) ⟨[v1,v2],[]⟩) (entryTree 102 fd102 ⟨[v1,v2],[]⟩) [] N T (.fin (.ok (.again (cd102 N))) [(N,(frm P [(J7,T,v1),(J30,(T + 1),v2)] 2))] (N + 1) (T + 2)):=fx 0 trivial (by kernel_rfl)
theorem ent116 (v1:Value):Sx b P 12 [1,1] [] (.call (.ref 116) ⟨[v1],[]⟩) (entryTree 116 fd116 ⟨[v1],[]⟩) [] N T (.fin (.ok (.again (cd116 N (N + 1)))) [(N,(frm P [(J20,T,v1)] 1)),((N + 1),(cel none))] (N + 2) (T + 1)):=fx 0 trivial (by kernel_rfl)
theorem ent123 (v1 v2:Value):Sx b P 15 [1,1,1,1] [] (.call (.ref 123) ⟨[v1,v2],[]⟩) (entryTree 123 fd123 ⟨[v1,v2],[]⟩) [] N T (.fin (.ok (.again (cd123 N))) [(N,(frm P [(J14,T,v1),(J25,(T + 1),v2)] 2))] (N + 1) (T + 2)):=fx 0 trivial (by kernel_rfl)
theorem ent130 (v1 v2 v3:Value):Sx b P 19 [1,1,1,1,1,1] [] (.call (.ref 130) ⟨[v1,v2,v3],[]⟩) (entryTree 130 fd130 ⟨[v1,v2,v3],[]⟩) [] N T (.fin (.ok (.again (cd130 N))) [(N,(frm P [(J8,T,v1),(J5,(T + 1),v2),(J0,(T + 2),v3)] 3))] (N + 1) (T + 3)):=fx 0 trivial (by kernel_rfl)
theorem ent137 (v1 v2 v3:Value):Sx b P 19 [1,1,1,1,1,1] [] (.call (.ref 137) ⟨[v1,v2,v3],[]⟩) (entryTree 137 fd137 ⟨[v1,v2,v3],[]⟩) [] N T (.fin (.ok (.again (cd137 N))) [(N,(frm P [(J8,T,v1),(J5,(T + 1),v2),(J0,(T + 2),v3)] 3))] (N + 1) (T + 3)):=fx 0 trivial (by kernel_rfl)
theorem ent142 (v1 v2:Value):Sx b P 16 [1,1,1,1] [] (.call (.ref 142) ⟨[v1,v2],[]⟩) (entryTree 142 fd142 ⟨[v1,v2],[]⟩) [] N T (.fin (.ok (.again (cd142 N (N + 1)))) [(N,(frm P [(J3,T,v1),(J0,(T + 1),v2)] 2)),((N + 1),(cel none))] (N + 2) (T + 2)):=fx 0 trivial (by kernel_rfl)
theorem ent147 (v1:Value):Sx b P 12 [1,1] [] (.call (.ref 147) ⟨[v1],[]⟩) (entryTree 147 fd147 ⟨[v1],[]⟩) [] N T (.fin (.ok (.again (cd147 N (N + 1)))) [(N,(frm P [(J17,T,v1)] 1)),((N + 1),(cel none))] (N + 2) (T + 1)):=fx 0 trivial (by kernel_rfl)
end
end Mine
end
section
namespace Mine
noncomputable def sLt (x y:Str):Bool:=decide (x.cps.toList < y.cps.toList)
theorem cmpLt (b:Bool) (P:Params) (N T:Nat) (x y:Str) (t u:Tok):(Fam.fin (.ok (.done (.ret (.bool (sLt x y))))) [] N T).Fits fun os=>run (cfg b P) 30 [] [] os (.builtin "str.__lt__" ⟨[.str x t,.str y u],[]⟩) .base (Dq (.builtin "str.__lt__" ⟨[.str x t,.str y u],[]⟩)) [] N T [] [] [] []:=⟨[],[],by cases b <;> kernel_rfl⟩
theorem cmpLe (b:Bool) (P:Params) (N T:Nat) (x y:Str) (t u:Tok):(Fam.fin (.ok (.done (.ret (.bool (!sLt y x))))) [] N T).Fits fun os=>run (cfg b P) 30 [] [] os (.builtin "str.__le__" ⟨[.str x t,.str y u],[]⟩) .base (Dq (.builtin "str.__le__" ⟨[.str x t,.str y u],[]⟩)) [] N T [] [] [] []:=⟨[],[],by cases b <;> kernel_rfl⟩
theorem cmpGt (b:Bool) (P:Params) (N T:Nat) (x y:Str) (t u:Tok):(Fam.fin (.ok (.done (.ret (.bool (sLt y x))))) [] N T).Fits fun os=>run (cfg b P) 30 [] [] os (.builtin "str.__gt__" ⟨[.str x t,.str y u],[]⟩) .base (Dq (.builtin "str.__gt__" ⟨[.str x t,.str y u],[]⟩)) [] N T [] [] [] []:=⟨[],[],by cases b <;> kernel_rfl⟩
section
variable {w:World} {b:Bool} (O:(cfg b w.params).Ok PG w)
include O
theorem con_run {d u n:Nat} {c:Code} {rd L' rest:Led} {N T N' T':Nat} {f:Flow} {q:Pst} {mem ctl:List Nat}
    (hF:(Fam.fin (.ok (.done f)) L' N' T').Fits fun os=>run (cfg b w.params) n mem ctl os c .base (Dq c) rd N T [] [] [] [])
    (hq:q.f.res = .ok f) (hL:L' = (rd.map (·.1)).zip q.wr++rest) (hN':q.N = N') (hT':q.T = T') (hn:q.nw = []) :
    CG w b d u c rd N T (fun _:Unit=>q):=by
  intro A s hz _ _ ht hh nd off hN hT
  have D:=rep_start ht hh nd off
  obtain ⟨h,g,dr,tk,os⟩:=s
  have z:=code_run (A:=A) (hA:=hz) (R:=fun r s'=>∃ z:Unit,r = q.f.res ∧ Aft ⟨h,g,dr,tk,os⟩ s' rd q) (g:=g) (d:=dr) (os:=os) O hF D hN (fun h' D' hN''=>by
    show ∃ z:Unit,_
    refine ⟨(),by rw [hq],?_⟩
    have:=aft_plain (q:=q) D' hL (by rw [hN',hN'']) hn
    rw [hT'] at this
    exact this)
  have hT2:tk = T:=hT
  subst hT2
  exact z
theorem conLt {d u:Nat} {N T:Nat} {x y:Str} {t u':Tok} {v:Bool} (hv:sLt x y = v):CG w b d u (.builtin "str.__lt__" ⟨[.str x t,.str y u'],[]⟩) [] N T (fun _:Unit=>⟨.ret (.bool v),[],[],N,T⟩):=
  hv ▸ con_run O (cmpLt b w.params N T x y t u') rfl (rest:=[]) rfl rfl rfl rfl
theorem conLe {d u:Nat} {N T:Nat} {x y:Str} {t u':Tok} {v:Bool} (hv:(!sLt y x) = v):CG w b d u (.builtin "str.__le__" ⟨[.str x t,.str y u'],[]⟩) [] N T (fun _:Unit=>⟨.ret (.bool v),[],[],N,T⟩):=
  hv ▸ con_run O (cmpLe b w.params N T x y t u') rfl (rest:=[]) rfl rfl rfl rfl
theorem conGt {d u:Nat} {N T:Nat} {x y:Str} {t u':Tok} {v:Bool} (hv:sLt y x = v):CG w b d u (.builtin "str.__gt__" ⟨[.str x t,.str y u'],[]⟩) [] N T (fun _:Unit=>⟨.ret (.bool v),[],[],N,T⟩):=
  hv ▸ con_run O (cmpGt b w.params N T x y t u') rfl (rest:=[]) rfl rfl rfl rfl
end
end Mine
end
section
namespace Mine
structure FnAt (C:Cf) (f:Addr) (fd:FuncData):Prop where
  at':∃ o cd oc,C.top f = some o ∧ o.data = .func fd ∧ fd.code = .ref cd ∧ C.top cd = some oc ∧ codeHas oc fd.qualname = true
  co:fd.scope.isCoroutine = false
  gen:fd.scope.isGenerator = false
theorem top2 (b:Bool) (P:Params):(cfg b P).top 2 = some statics:=by kernel_rfl
theorem fn21 (b:Bool) (P:Params):FnAt (cfg b P) 21 fd21:=⟨⟨o21 (FT b P),20,o20 (FT b P),by kernel_rfl,by kernel_rfl,rfl,by kernel_rfl,by kernel_rfl⟩,by kernel_rfl,by kernel_rfl⟩
theorem fn28 (b:Bool) (P:Params):FnAt (cfg b P) 28 fd28:=⟨⟨o28 (FT b P),27,o27 (FT b P),by kernel_rfl,by kernel_rfl,rfl,by kernel_rfl,by kernel_rfl⟩,by kernel_rfl,by kernel_rfl⟩
theorem fn35 (b:Bool) (P:Params):FnAt (cfg b P) 35 fd35:=⟨⟨o35 (FT b P),34,o34 (FT b P),by kernel_rfl,by kernel_rfl,rfl,by kernel_rfl,by kernel_rfl⟩,by kernel_rfl,by kernel_rfl⟩
theorem fn42 (b:Bool) (P:Params):FnAt (cfg b P) 42 fd42:=⟨⟨o42 (FT b P),41,o41 (FT b P),by kernel_rfl,by kernel_rfl,rfl,by kernel_rfl,by kernel_rfl⟩,by kernel_rfl,by kernel_rfl⟩
theorem fn49 (b:Bool) (P:Params):FnAt (cfg b P) 49 fd49:=⟨⟨o49 (FT b P),48,o48 (FT b P),by kernel_rfl,by kernel_rfl,rfl,by kernel_rfl,by kernel_rfl⟩,by kernel_rfl,by kernel_rfl⟩
theorem fn58 (b:Bool) (P:Params):FnAt (cfg b P) 58 fd58:=⟨⟨o58 (FT b P),57,o57 (FT b P),by kernel_rfl,by kernel_rfl,rfl,by kernel_rfl,by kernel_rfl⟩,by kernel_rfl,by kernel_rfl⟩
theorem fn67 (b:Bool) (P:Params):FnAt (cfg b P) 67 fd67:=⟨⟨o67 (FT b P),66,o66 (FT b P),by kernel_rfl,by kernel_rfl,rfl,by kernel_rfl,by kernel_rfl⟩,by kernel_rfl,by kernel_rfl⟩
theorem fn81 (b:Bool) (P:Params):FnAt (cfg b P) 81 fd81:=⟨⟨o81 (FT b P),80,o80 (FT b P),by kernel_rfl,by kernel_rfl,rfl,by kernel_rfl,by kernel_rfl⟩,by kernel_rfl,by kernel_rfl⟩
theorem fn88 (b:Bool) (P:Params):FnAt (cfg b P) 88 fd88:=⟨⟨o88 (FT b P),87,o87 (FT b P),by kernel_rfl,by kernel_rfl,rfl,by kernel_rfl,by kernel_rfl⟩,by kernel_rfl,by kernel_rfl⟩
theorem fn95 (b:Bool) (P:Params):FnAt (cfg b P) 95 fd95:=⟨⟨o95 (FT b P),94,o94 (FT b P),by kernel_rfl,by kernel_rfl,rfl,by kernel_rfl,by kernel_rfl⟩,by kernel_rfl,by kernel_rfl⟩
theorem fn102 (b:Bool) (P:Params):FnAt (cfg b P) 102 fd102:=⟨⟨o102 (FT b P),101,o101 (FT b P),by kernel_rfl,by kernel_rfl,rfl,by kernel_rfl,by kernel_rfl⟩,by kernel_rfl,by kernel_rfl⟩
theorem fn116 (b:Bool) (P:Params):FnAt (cfg b P) 116 fd116:=⟨⟨o116 (FT b P),115,o115 (FT b P),by kernel_rfl,by kernel_rfl,rfl,by kernel_rfl,by kernel_rfl⟩,by kernel_rfl,by kernel_rfl⟩
theorem fn123 (b:Bool) (P:Params):FnAt (cfg b P) 123 fd123:=⟨⟨o123 (FT b P),122,o122 (FT b P),by kernel_rfl,by kernel_rfl,rfl,by kernel_rfl,by kernel_rfl⟩,by kernel_rfl,by kernel_rfl⟩
theorem fn130 (b:Bool) (P:Params):FnAt (cfg b P) 130 fd130:=⟨⟨o130 (FT b P),129,o129 (FT b P),by kernel_rfl,by kernel_rfl,rfl,by kernel_rfl,by kernel_rfl⟩,by kernel_rfl,by kernel_rfl⟩
theorem fn137 (b:Bool) (P:Params):FnAt (cfg b P) 137 fd137:=⟨⟨o137 (FT b P),136,o136 (FT b P),by kernel_rfl,by kernel_rfl,rfl,by kernel_rfl,by kernel_rfl⟩,by kernel_rfl,by kernel_rfl⟩
theorem fn142 (b:Bool) (P:Params):FnAt (cfg b P) 142 fd142:=⟨⟨o142 (FT b P),141,o141 (FT b P),by kernel_rfl,by kernel_rfl,rfl,by kernel_rfl,by kernel_rfl⟩,by kernel_rfl,by kernel_rfl⟩
theorem fn147 (b:Bool) (P:Params):FnAt (cfg b P) 147 fd147:=⟨⟨o147 (FT b P),146,o146 (FT b P),by kernel_rfl,by kernel_rfl,rfl,by kernel_rfl,by kernel_rfl⟩,by kernel_rfl,by kernel_rfl⟩
section
variable {w:World} {b:Bool} (O:(cfg b w.params).Ok PG w)
include O
theorem con_fn {d u:Nat} {f:Addr} {fd:FuncData} {args:Args} {rd:Led} {N T:Nat} {Z:Type} {q:Z → Pst} {cF:Code} {L1:Led} {N1 T1 n1:Nat} {mem1:List Nat}
    (hf:FnAt (cfg b w.params) f fd) (hroom:d < recursionLimit)
    (e1:(Fam.fin (.ok (.again cF)) L1 N1 T1).Fits fun os=>run (cfg b w.params) n1 mem1 [] os (.call (.ref f) args) .base (entryTree f fd args) [] N T [] [] [] [])
    (hb:∀ (A:Around) (s:Shared) (h:Heap),A.handled = none → A.depth ≤ d → A.units ≤ u → s.heap.objs.size = N → Rep (cfg b w.params) (rd.map (·.1)) s.heap (rd++L1) h → h.objs.size = N1 →
      codeAny (model PG w) A cF (fun r s'=>∃ z,r = (q z).f.res ∧ Aft s s' rd (q z)) ⟨h,s.gens,s.drawn,T1,s.os⟩) :
    CG w b d u (.call (.ref f) args) rd N T q:=by
  obtain ⟨⟨o,cd,oc,h1,h2,h3,h4,h5⟩,h6,h7⟩:=hf
  exact con_call O (top2 b w.params) h1 h2 h3 h4 h5 h6 h7 hroom e1 hb
end
theorem Aft.shape {s s':Shared} {rd:Led} {o:Pst} (B:Aft s s' rd o):s' = ⟨s'.heap,s.gens,s.drawn,o.T,s.os⟩:=by
  rw [← B.gens,← B.drawn,← B.toks,← B.os]
theorem coni {prog:Program} {w:World} {C:Cf} {d u:Nat} {c:Code} {rd:Led} {N T:Nat} {Z:Type} {o:Z → Pst} (H:∀ (A:Around) (h:Heap) (g:Array GenState) (dr:Drawn) (os:OsState) (G:Prop),A.handled = none → A.depth ≤ d → A.units ≤ u → Rep C (rd.map (·.1)) h rd h → h.objs.size = N → (codeAny (model prog w) A c (fun r s'=>∃ z,r = (o z).f.res ∧ Aft ⟨h,g,dr,T,os⟩ s' rd (o z)) ⟨h,g,dr,T,os⟩ → G) → G):Con prog w C d u c rd N T o:=by
  intro A s hz hd hu ht hh nd off hN hT
  obtain ⟨h,g,dr,tk,os⟩:=s
  have hT2:tk = T:=hT
  subst hT2
  exact H A h g dr os _ hz hd hu (rep_start ht hh nd off) hN id
end Mine
end
section
namespace Mine
section
variable {w:World} {C:Cf} {prog:Program}
theorem con_meets {id:String} {args:Args} {B:Builtin} {S:Spec} (entry:entryFor table id = some B) (plain:plainId id = true) (g:Meets (B args) S)
    {d u:Nat} {rd:Led} {N T:Nat} {Z:Type} {q:Z → Pst}
    (h:∀ (A:Around) (s:Shared),A.handled = none → HasL s.heap rd → (rd.map (·.1)).Nodup → s.heap.objs.size = N → s.toks = T → S A (fun r s'=>∃ z,r = (q z).f.res ∧ Aft s s' rd (q z)) s) :
    Con prog w C d u (.builtin id args) rd N T q:=by
  intro A s hz _ _ _ hh nd _ hN hT
  refine codeAny_builtin entry ?_
  rw [Around.under_plainId plain]
  exact g prog w A _ s (h A s hz hh nd hN hT)
theorem aft_upd {s:Shared} {l:Addr} {o o':Obj} {f:Obj → Obj} {v:Value} (ho:s.heap.get? l = some o) (e:f o = o') (hf:o'.isFreed = false) :
    Aft s { s with heap:=s.heap.update l f,toks:=s.toks } [(l,o)] ⟨.ret v,[o'],[],s.heap.objs.size,s.toks⟩ where
  gens:=rfl
  drawn:=rfl
  os:=rfl
  toks:=rfl
  size:=(Heap.SameBut.update ..).1
  grow:=Nat.le_refl _
  wr:=fun p hp=>by
    have:p = (l,o'):=by simpa using hp
    rw [this]
    have:=Heap.get?_update_self f ho (by rw [e]; exact hf)
    rw [e] at this; exact this
  nw:=fun p hp=>by cases hp
  nd:=List.nodup_nil
  keep:=fun b x hb n=>by
    have:l ≠ b:=fun h=>n (by rw [h]; exact .head _)
    rw [Heap.get?_update_other _ _ this]; exact hb
theorem plain_append:plainId "list.append" = true:=by decide +kernel
theorem plain_pop:plainId "list.pop" = true:=by decide +kernel
theorem plain_len:plainId "list.__len__" = true:=by decide +kernel
theorem plain_reverse:plainId "list.reverse" = true:=by decide +kernel
theorem plain_init:plainId "list.__init__" = true:=by decide +kernel
theorem mapSeq_lst (vs ws:List Value) (e:Nat) (f:Array Value → Array Value) (hf:f ⟨vs⟩ = ⟨ws⟩):Obj.mapSeq f (lst vs e) = lst ws (if ws.length == vs.length then e else e + 1):=by
  unfold lst Obj.mapSeq
  simp only [hf]
  rfl
theorem conAppend {d u:Nat} {l:Addr} {vs:List Value} {v:Value} {e N T:Nat} (hn:vs.length ≤ sizeLine) :
    Con prog w C d u (.builtin "list.append" ⟨[.ref l,v],[]⟩) [(l,lst vs e)] N T (fun _:Unit=>⟨.ret .none,[lst (vs++[v]) (e + 1)],[],N,T⟩):=by
  refine con_meets F.entry_list_append plain_append (list_append l ⟨vs⟩ e v hn) ?_
  intro A s hz hh nd hN hT
  have ho:=hh _ (.head _)
  refine ⟨ho,(),rfl,?_⟩
  subst hN hT
  refine aft_upd ho ?_ rfl
  rw [mapSeq_lst vs (vs++[v]) e _ (by simp)]
  simp
theorem conPop {d u:Nat} {l:Addr} {vs:List Value} {v:Value} {e N T:Nat} (hn:vs.length < sizeLine) :
    Con prog w C d u (.builtin "list.pop" ⟨[.ref l],[]⟩) [(l,lst (vs++[v]) e)] N T (fun _:Unit=>⟨.ret v,[lst vs (e + 1)],[],N,T⟩):=by
  refine con_meets F.entry_list_pop plain_pop (MeetsSeq.list_pop_last l ⟨vs++[v]⟩ e v (by simp) (by simp; omega)) ?_
  intro A s hz hh nd hN hT
  have ho:=hh _ (.head _)
  refine ⟨ho,(),rfl,?_⟩
  subst hN hT
  refine aft_upd ho ?_ rfl
  rw [mapSeq_lst (vs++[v]) vs e _ (by simp [Array.eraseIdxIfInBounds]; rw [List.eraseIdx_append_of_length_le (Nat.le_refl _)]; simp)]
  simp
theorem conPop0 {d u:Nat} {l:Addr} {vs:List Value} {v:Value} {t:Tok} {e N T:Nat} (hn:vs.length < sizeLine) :
    Con prog w C d u (.builtin "list.pop" ⟨[.ref l,.int 0 t],[]⟩) [(l,lst (v :: vs) e)] N T (fun _:Unit=>⟨.ret v,[lst vs (e + 1)],[],N,T⟩):=by
  refine con_meets F.entry_list_pop plain_pop (MeetsSeq.list_pop_at l ⟨v :: vs⟩ e 0 t 0 v (by decide) (by unfold seqIndex?; simp) (by simp) (by simp; omega)) ?_
  intro A s hz hh nd hN hT
  have ho:=hh _ (.head _)
  refine ⟨ho,(),rfl,?_⟩
  subst hN hT
  refine aft_upd ho ?_ rfl
  rw [mapSeq_lst (v :: vs) vs e _ (by simp [Array.eraseIdxIfInBounds])]
  simp
theorem conRev {d u:Nat} {l:Addr} {vs:List Value} {e N T:Nat} (hn:vs.length ≤ sizeLine) :
    Con prog w C d u (.builtin "list.reverse" ⟨[.ref l],[]⟩) [(l,lst vs e)] N T (fun _:Unit=>⟨.ret .none,[lst vs.reverse e],[],N,T⟩):=by
  refine con_meets F.entry_list_reverse plain_reverse (AutoSeq1.list_reverse_list_0 l ⟨vs⟩ e hn) ?_
  intro A s hz hh nd hN hT
  have ho:=hh _ (.head _)
  refine ⟨ho,(),rfl,?_⟩
  subst hN hT
  refine aft_upd ho ?_ rfl
  rw [mapSeq_lst vs vs.reverse e _ (by simp)]
  simp
theorem zip_self:∀ rd:Led,(rd.map (·.1)).zip (rd.map (·.2)) = rd
  | []=>rfl
  | x :: r=>by simp only [List.map_cons,List.zip_cons_cons]; rw [zip_self r]
theorem aft_tok {s:Shared} {rd:Led} {k:Nat} {v:Value} (hh:HasL s.heap rd):Aft s { s with heap:=s.heap,toks:=s.toks + k } rd ⟨.ret v,rd.map (·.2),[],s.heap.objs.size,s.toks + k⟩ where
  gens:=rfl
  drawn:=rfl
  os:=rfl
  toks:=rfl
  size:=rfl
  grow:=Nat.le_refl _
  wr:=fun p hp=>by
    rw [zip_self] at hp
    exact hh p hp
  nw:=fun p hp=>by cases hp
  nd:=List.nodup_nil
  keep:=fun b x hb n=>hb
theorem conLen {d u:Nat} {l:Addr} {vs:List Value} {e N T:Nat} :
    Con prog w C d u (.builtin "list.__len__" ⟨[.ref l],[]⟩) [(l,lst vs e)] N T (fun _:Unit=>⟨.ret (.int (vs.length:Int) T),[lst vs e],[],N,T + 1⟩):=by
  refine con_meets F.entry_list_len plain_len (AutoListH.list___len___list_0 l ⟨vs⟩ e) ?_
  intro A s hz hh nd hN hT
  have ho:=hh _ (.head _)
  subst hN hT
  exact ⟨ho,(),rfl,aft_tok hh⟩
end
section
variable {w:World} {C:Cf} {prog:Program}
noncomputable def SignsZ (x:Str):Type:={ z:Nat × Nat × List Value × Nat // ItemsOf (SignAt x) ⟨z.2.2.1⟩ x.cps.size }
theorem signs_items (x:Str):ItemsOf (SignAt x) ⟨x.cps.toList.map fun c=>Value.str ⟨#[c]⟩ 0⟩ x.cps.size:=by
  refine ⟨by simp,fun j v h=>?_⟩
  simp at h
  obtain ⟨c,h1,h2⟩:=h
  exact ⟨c,0,h1,h2.symm⟩
theorem conInit {d u:Nat} {l:Addr} {x:Str} {t:Tok} {N T:Nat} (hn:x.cps.size ≤ sizeLine) (hl:N = l + 1) :
    Con prog w C d u (.builtin "list.__init__" ⟨[.ref l,.str x t],[]⟩) [(l,lst [] 0)] N T (fun z:SignsZ x=>⟨.ret .none,[lst z.1.2.2.1 z.1.2.2.2],[],z.1.1,z.1.2.1⟩):=by
  intro A s hz _ _ _ hh nd _ hN hT
  refine codeAny_builtin F.entry_list_init ?_
  rw [Around.under_plainId plain_init]
  have ho:=hh _ (.head _)
  refine wpAny_list_init_str (R:=fun r s'=>∃ z:SignsZ x,r = .ok (.ret .none) ∧ Aft s s' [(l,lst [] 0)] ⟨.ret .none,[lst z.1.2.2.1 z.1.2.2.2],[],z.1.1,z.1.2.1⟩) hz x t l ho (fun h' tk acc' c' hk hS hacc=>?_) hn
  refine ⟨⟨(h'.objs.size,tk,acc'.toList,c'),hacc⟩,rfl,?_⟩
  have hge:s.heap.objs.size ≤ h'.objs.size:=by
    rw [hN,hl]; exact Heap.lt_size hS
  exact { gens:=rfl,drawn:=rfl,os:=rfl,toks:=rfl,size:=rfl,grow:=hge
          wr:=fun p hp=>by
            have:p = (l,lst acc'.toList c'):=by simpa using hp
            rw [this]; exact hS
          nw:=fun p hp=>by cases hp
          nd:=List.nodup_nil
          keep:=fun b o e n=>hk b o (fun h=>n (by rw [h]; exact .head _)) e }
end
section
variable {w:World} {C:Cf} {prog:Program}
theorem plain_lenB:plainId "len" = true:=by decide +kernel
theorem conLenB {d u:Nat} {l:Addr} {vs:List Value} {e N T:Nat} {n:Int} (hn:n = vs.length) (hfit:vs.length ≤ sizeLine) :
    Con prog w C d u (.builtin "len" ⟨[.ref l],[]⟩) [(l,lst vs e)] N T (fun _:Unit=>⟨.ret (.int n (T + 1)),[lst vs e],[],N,T + 2⟩):=by
  intro A s hz _ _ _ hh nd _ hN hT
  refine codeAny_builtin entry_len ?_
  rw [Around.under_plainId plain_lenB]
  have ho:=hh _ (.head _)
  have hl:s.heap.IsList l ⟨vs⟩:=⟨_,ho,rfl,e,rfl⟩
  subst hN hT hn
  have hf:((⟨vs⟩:Array Value).size:Int) < 2 ^ 63:=by
    have:sizeLine = 16777216:=by decide
    simp; omega
  refine wpAny_mono (wpAny_len_body_list hl hf (Q:=fun r s'=>∃ z:Unit,(.ok (.ret r):Result) = .ok (.ret (.int (vs.length:Int) (s.toks + 1))) ∧ Aft s s' [(l,lst vs e)] ⟨.ret (.int (vs.length:Int) (s.toks + 1)),[lst vs e],[],s.heap.objs.size,s.toks + 2⟩) ⟨(),rfl,aft_tok (k:=2) hh⟩) ?_ (fun _ _ x=>x)
  rintro fin s' ⟨r,rfl,h⟩
  exact h
end
theorem cmpIGt (b:Bool) (P:Params) (N T:Nat) (x y:Int) (t u:Tok):(Fam.fin (.ok (.done (.ret (.bool (decide (x > y)))))) [] N T).Fits fun os=>run (cfg b P) 30 [] [] os (.builtin "int.__gt__" ⟨[.int x t,.int y u],[]⟩) .base (Dq (.builtin "int.__gt__" ⟨[.int x t,.int y u],[]⟩)) [] N T [] [] [] []:=⟨[],[],by cases b <;> kernel_rfl⟩
section
variable {w:World} {b:Bool} (O:(cfg b w.params).Ok PG w)
include O
theorem conIGt {d u:Nat} {N T:Nat} {x y:Int} {t u':Tok} {v:Bool} (hv:decide (x > y) = v):CG w b d u (.builtin "int.__gt__" ⟨[.int x t,.int y u'],[]⟩) [] N T (fun _:Unit=>⟨.ret (.bool v),[],[],N,T⟩):=
  hv ▸ con_run O (cmpIGt b w.params N T x y t u') rfl (rest:=[]) rfl rfl rfl rfl
end
end Mine
end
section
namespace Mine
section
variable (b:Bool) (P:Params) (N T:Nat)
theorem entLam (rf cl cod:Addr) (ct v1:Value):Sx b P 11 [1,1] [] (.call (.ref rf) ⟨[v1],[]⟩) (entryTree rf (fdLam 1 [(nSigns,cl)] ct cod) ⟨[v1],[]⟩) [] N T (.fin (.ok (.again (cdLam rf cod cl N))) [(N,(frm P [(J5,T,v1)] 1))] (N + 1) (T + 1)):=fx 0 trivial (by kernel_rfl)
theorem lam0 (aF rf cl cod sgl:Addr) (R:List Value) (v1 ct:Value) (oc:Obj) (x0:Str) (t0 t10:Tok) (e:Nat):Sg b P 33 [0,0,1,2,2,2] [0,0,0,0,0,0] (cdLam rf cod cl aF) [(cl,(cel (some (.ref sgl)))),(sgl,(lst [] e)),(rf,(lamF 1 [(nSigns,cl)] ct cod none)),(cod,oc),(aF,(frm P [(J5,t0,v1)] 1))] N T (.fin (.ok (.done (.ret (.str J10 (T + 3))))) [(cl,(cel (some (.ref sgl)))),(sgl,(lst [] e)),(rf,(lamF 1 [(nSigns,cl)] ct cod none)),(cod,oc),(aF,(frm P [(J5,t0,v1)] 1))] N (T + 4)):=fx 0 trivial (by kernel_rfl)
theorem lam1 (aF rf cl cod sgl:Addr) (R:List Value) (v1 ct:Value) (oc:Obj) (x0:Str) (t0 t10:Tok) (e:Nat):Sg b P 34 [0,0,1,1,2,2,2,2,2] [0,1,0,1,0,1] (cdLam rf cod cl aF) [(cl,(cel (some (.ref sgl)))),(sgl,(lst (R++[.str x0 t10]) e)),(rf,(lamF 1 [(nSigns,cl)] ct cod none)),(cod,oc),(aF,(frm P [(J5,t0,v1)] 1))] N T (.ask Unit ⟨(.builtin "len" ⟨[(.ref sgl)],[]⟩),1,3,[(sgl,(lst (R++[.str x0 t10]) e))],N,T⟩ [1] (fun z1=>⟨(.ret (.int ((R.length + 1:Nat):Int) (T + 1))),[(lst (R++[.str x0 t10]) e)],[],N,(T + 2)⟩) fun z1=>.ask Unit ⟨(.builtin "int.__gt__" ⟨[(.int ((R.length + 1:Nat):Int) (T + 1)),(.int 0 (T + 2))],[]⟩),1,3,[],N,(T + 3)⟩ [] (fun z2=>⟨(.ret (.bool true)),[],[],N,(T + 3)⟩) fun z2=>.ask Unit ⟨(.builtin "list.pop" ⟨[(.ref sgl)],[]⟩),1,3,[(sgl,(lst (R++[.str x0 t10]) e))],N,(T + 3)⟩ [1] (fun z3=>⟨(.ret (.str x0 t10)),[(lst R (e + 1))],[],N,(T + 3)⟩) fun z3=>.fin (.ok (.done (.ret (.str x0 t10)))) [(cl,(cel (some (.ref sgl)))),(sgl,(lst R (e + 1))),(rf,(lamF 1 [(nSigns,cl)] ct cod none)),(cod,oc),(aF,(frm P [(J5,t0,v1)] 1))] N (T + 3)):=fx 3 ⟨⟨()⟩,fun z1=>⟨()⟩,fun z1 z2=>⟨()⟩,fun z1 z2 z3=>trivial⟩ (by kernel_rfl)
end
section
variable {w:World} {b:Bool} (O:(cfg b w.params).Ok PG w)
include O
theorem con_lam0 {N T:Nat} {rf cl cod sgl:Addr} {ct:Value} {t:Tok} {e:Nat} {oc:Obj} (hoc:codeHas oc qLam = true) :
    CG w b 580 5800 (.call (.ref rf) ⟨[.int 1 t],[]⟩) [(cl,cel (some (.ref sgl))),(sgl,lst [] e),(rf,lamF 1 [(nSigns,cl)] ct cod none),(cod,oc)] N T
      (fun z:Nat × Nat × Tok=>⟨.ret (.str (sg []) z.2.2),[cel (some (.ref sgl)),lst [] e,lamF 1 [(nSigns,cl)] ct cod none,oc],[],z.1,z.2.1⟩):=by
  refine con_call_led O (top2 b w.params) (o:=lamF 1 [(nSigns,cl)] ct cod none) (by simp) rfl rfl (oc:=oc) (by simp) hoc rfl rfl (by decide) (entLam b w.params N T rf cl cod ct (.int 1 t)) ?_
  intro A s h hz hA hu hN D hN1
  refine code_run O hz (lam0 b w.params _ _ N rf cl cod sgl [] _ ct oc (sg []) _ 0 e) D hN1 ?_
  intro h' D' hN'
  exact ⟨(_,_,_),rfl,aft_plain (q:=⟨_,[cel (some (.ref sgl)),lst [] e,lamF 1 [(nSigns,cl)] ct cod none,oc],[],_,_⟩) D' rfl hN' rfl⟩
theorem con_lam1 {N T:Nat} {rf cl cod sgl:Addr} {ct:Value} {x:Str} {tx:Tok} {R:List Value} {t:Tok} {e:Nat} {oc:Obj} (hoc:codeHas oc qLam = true) (hR:R.length < 1000) :
    CG w b 580 5800 (.call (.ref rf) ⟨[.int 1 t],[]⟩) [(cl,cel (some (.ref sgl))),(sgl,lst (R++[.str x tx]) e),(rf,lamF 1 [(nSigns,cl)] ct cod none),(cod,oc)] N T
      (fun z:Nat × Nat=>⟨.ret (.str x tx),[cel (some (.ref sgl)),lst R (e + 1),lamF 1 [(nSigns,cl)] ct cod none,oc],[],z.1,z.2⟩):=by
  refine con_call_led O (top2 b w.params) (o:=lamF 1 [(nSigns,cl)] ct cod none) (by simp) rfl rfl (oc:=oc) (by simp) hoc rfl rfl (by decide) (entLam b w.params N T rf cl cod ct (.int 1 t)) ?_
  intro A s h hz hA hu hN D hN1
  have hs:sizeLine = 16777216:=by decide
  refine code_run O hz (lam1 b w.params _ _ N rf cl cod sgl R _ ct oc x _ tx e) D hN1 (HHx 3 ⟨⟨by decide,conLenB (by simp) (by simp; omega)⟩,fun z=>⟨by decide,conIGt O (decide_eq_true (by omega))⟩,fun z z=>⟨by decide,conPop (by omega)⟩,fun _ _ _=>trivial,fun z z z=>?_⟩)
  intro h' D' hN'
  exact ⟨(_,_),rfl,aft_plain (q:=⟨_,[cel (some (.ref sgl)),lst R (e + 1),lamF 1 [(nSigns,cl)] ct cod none,oc],[],_,_⟩) D' rfl hN' rfl⟩
end
end Mine
end
section
namespace Mine
noncomputable abbrev sn (R:List Value) (v:Value):List Value:=R++[v]
structure LX where
  a:Addr
  d:Addr
  st:Addr
  sd:Addr
  cl:Addr
  sgl:Addr
  rf:Addr
  cod:Addr
  pb:Addr
  cod0:Addr
  ct:Value
  cvs:List Value
  u1:Tok
  u2:Tok
  u3:Tok
  u4:Tok
  u5:Tok
  tw:Tok
noncomputable def wsp:Str:=sg [10,9,13,32]
noncomputable def lexD (P:Params) (X:LX) (n:Int) (tn:Tok):Obj:=dct P [(sg [108,105,110,101,110,111],X.u1,.int n tn),(sg [105,110,115,116,114,101,97,109],X.u2,.ref X.st),(sg [119,104,105,116,101,115,112,97,99,101],X.u3,.str wsp X.tw),(sg [112,117,115,104,98,97,99,107],X.u4,.ref X.pb)] 4
noncomputable def lexL (P:Params) (X:LX) (n:Int) (tn:Tok) (S:List Value) (e1:Nat) (B:List Value) (e2:Nat):Led:=
  [(X.a,ins (.ref 105) (some X.d)),(X.d,lexD P X n tn),(X.st,lamF 0 [] .none X.cod0 (some X.sd)),(X.sd,dct P [(sg [114,101,97,100],X.u5,.ref X.rf)] 1),
   (X.cl,cel (some (.ref X.sgl))),(X.sgl,lst S e1),(X.rf,lamF 1 [(nSigns,X.cl)] X.ct X.cod none),(X.cod,fds "code" X.cvs),(X.pb,lst B e2)]
noncomputable def lexO (P:Params) (X:LX) (n:Int) (tn:Tok) (S:List Value) (e1:Nat) (B:List Value) (e2:Nat):List Obj:=
  [ins (.ref 105) (some X.d),lexD P X n tn,lamF 0 [] .none X.cod0 (some X.sd),dct P [(sg [114,101,97,100],X.u5,.ref X.rf)] 1,
   cel (some (.ref X.sgl)),lst S e1,lamF 1 [(nSigns,X.cl)] X.ct X.cod none,fds "code" X.cvs,lst B e2]
noncomputable def lexAs (X:LX):List Addr:=[X.a,X.d,X.st,X.sd,X.cl,X.sgl,X.rf,X.cod,X.pb]
noncomputable def sEq (x y:Str):Bool:=x.cps.toList == y.cps.toList
theorem cmpEq (b:Bool) (P:Params) (N T:Nat) (x y:Str) (t u:Tok):(Fam.fin (.ok (.done (.ret (.bool (sEq x y))))) [] N T).Fits fun os=>run (cfg b P) 30 [] [] os (.builtin "str.__eq__" ⟨[.str x t,.str y u],[]⟩) .base (Dq (.builtin "str.__eq__" ⟨[.str x t,.str y u],[]⟩)) [] N T [] [] [] []:=⟨[],[],by cases b <;> kernel_rfl⟩
section
variable {w:World} {b:Bool} (O:(cfg b w.params).Ok PG w)
include O
theorem conEq {d u:Nat} {N T:Nat} {x y:Str} {t u':Tok} {v:Bool} (hv:sEq x y = v):CG w b d u (.builtin "str.__eq__" ⟨[.str x t,.str y u'],[]⟩) [] N T (fun _:Unit=>⟨.ret (.bool v),[],[],N,T⟩):=
  hv ▸ con_run O (cmpEq b w.params N T x y t u') rfl (rest:=[]) rfl rfl rfl rfl
end
end Mine
end
section
namespace Mine
section
variable (b:Bool) (P:Params) (N T:Nat)
theorem rc1t (X:LX) (aF:Addr) (n:Int) (R B:List Value) (x0:Str) (tn t0 t10:Tok) (e e1:Nat):Sg b P 115 [10,1,0,0,0,1,0,0,0,1,1,0,2,3,3,3,3,3,3,3,3,4,7,10,10,10,10,1,0,0,0,1,0,0,0,1,1,0,2,1,0,0,0,1,0,1,0,1,0,0,0,1,0,2,2,2,10] [0,0,0,1,0,1,0,0,0,0,0] (cd88 aF) (lexL P X n tn (R++[.str x0 t10]) e B e1++[(aF,(frm P [(J7,t0,(.ref X.a))] 1))]) N T (.ask (Nat × Nat) ⟨(.call (.ref X.rf) ⟨[(.int 1 (T + 2))],[]⟩),1,3,[(X.cl,(cel (some (.ref X.sgl)))),(X.sgl,(lst (R++[.str x0 t10]) e)),(X.rf,(lamF 1 [(J37,X.cl)] X.ct X.cod none)),(X.cod,(fds "code" X.cvs))],N,(T + 3)⟩ [4,5,6,7] (fun z1=>⟨(.ret (.str x0 t10)),[(cel (some (.ref X.sgl))),(lst R (e + 1)),(lamF 1 [(J37,X.cl)] X.ct X.cod none),(fds "code" X.cvs)],[],z1.1,z1.2⟩) fun z1=>.ask Unit ⟨(.builtin "str.__eq__" ⟨[(.str x0 t10),(.str J31 (z1.2 + 1))],[]⟩),1,3,[],z1.1,(z1.2 + 2)⟩ [] (fun z2=>⟨(.ret (.bool true)),[],[],z1.1,(z1.2 + 2)⟩) fun z2=>.fin (.ok (.done (.ret (.str x0 t10)))) (lexL P X (n + 1) (z1.2 + 4) R (e + 1) B e1++[(aF,(frm P [(J7,t0,(.ref X.a)),(J51,z1.2,(.str x0 t10))] 2))]) z1.1 (z1.2 + 7)):=fx 2 ⟨⟨(0,0)⟩,fun z1=>⟨()⟩,fun z1 z2=>trivial⟩ (by kernel_rfl)
theorem rc1f (X:LX) (aF:Addr) (n:Int) (R B:List Value) (x0:Str) (tn t0 t10:Tok) (e e1:Nat):Sg b P 65 [10,1,0,0,0,1,0,0,0,1,1,0,2,3,3,3,3,3,3,3,3,4,7,10,10,10,10] [0,0,0,1,0,1] (cd88 aF) (lexL P X n tn (R++[.str x0 t10]) e B e1++[(aF,(frm P [(J7,t0,(.ref X.a))] 1))]) N T (.ask (Nat × Nat) ⟨(.call (.ref X.rf) ⟨[(.int 1 (T + 2))],[]⟩),1,3,[(X.cl,(cel (some (.ref X.sgl)))),(X.sgl,(lst (R++[.str x0 t10]) e)),(X.rf,(lamF 1 [(J37,X.cl)] X.ct X.cod none)),(X.cod,(fds "code" X.cvs))],N,(T + 3)⟩ [4,5,6,7] (fun z1=>⟨(.ret (.str x0 t10)),[(cel (some (.ref X.sgl))),(lst R (e + 1)),(lamF 1 [(J37,X.cl)] X.ct X.cod none),(fds "code" X.cvs)],[],z1.1,z1.2⟩) fun z1=>.ask Unit ⟨(.builtin "str.__eq__" ⟨[(.str x0 t10),(.str J31 (z1.2 + 1))],[]⟩),1,3,[],z1.1,(z1.2 + 2)⟩ [] (fun z2=>⟨(.ret (.bool false)),[],[],z1.1,(z1.2 + 2)⟩) fun z2=>.fin (.ok (.done (.ret (.str x0 t10)))) (lexL P X n tn R (e + 1) B e1++[(aF,(frm P [(J7,t0,(.ref X.a)),(J51,z1.2,(.str x0 t10))] 2))]) z1.1 (z1.2 + 2)):=fx 2 ⟨⟨(0,0)⟩,fun z1=>⟨()⟩,fun z1 z2=>trivial⟩ (by kernel_rfl)
theorem rc0 (X:LX) (aF:Addr) (n:Int) (R B:List Value) (x0:Str) (tn t0 t10:Tok) (e e1:Nat):Sg b P 66 [10,1,0,0,0,1,0,0,0,1,1,0,2,3,3,3,3,3,3,3,3,4,7,10,10,10,10] [0,0,0,1,0,0] (cd88 aF) (lexL P X n tn [] e B e1++[(aF,(frm P [(J7,t0,(.ref X.a))] 1))]) N T (.ask (Nat × Nat × Tok) ⟨(.call (.ref X.rf) ⟨[(.int 1 (T + 2))],[]⟩),1,3,[(X.cl,(cel (some (.ref X.sgl)))),(X.sgl,(lst [] e)),(X.rf,(lamF 1 [(J37,X.cl)] X.ct X.cod none)),(X.cod,(fds "code" X.cvs))],N,(T + 3)⟩ [4,5,6,7] (fun z1=>⟨(.ret (.str J10 z1.2.2)),[(cel (some (.ref X.sgl))),(lst [] e),(lamF 1 [(J37,X.cl)] X.ct X.cod none),(fds "code" X.cvs)],[],z1.1,z1.2.1⟩) fun z1=>.fin (.ok (.done (.ret (.str J10 z1.2.2)))) (lexL P X n tn [] e B e1++[(aF,(frm P [(J7,t0,(.ref X.a)),(J51,z1.2.1,(.str J10 z1.2.2))] 2))]) z1.1 (z1.2.1 + 2)):=fx 1 ⟨⟨(0,0,0)⟩,fun z1=>trivial⟩ (by kernel_rfl)
end
section
variable {w:World} {b:Bool} (O:(cfg b w.params).Ok PG w)
include O
theorem con_rc1 {N T:Nat} {X:LX} {n:Int} {tn:Tok} {R B:List Value} {x:Str} {t:Tok} {e e1:Nat} (hX:codeHas (fds "code" X.cvs) qLam = true) (hR:R.length < 1000) :
    CG w b 570 5700 (.call (.ref 88) ⟨[.ref X.a],[]⟩) (lexL w.params X n tn (R++[.str x t]) e B e1) N T
      (fun z:Nat × Nat × Tok=>⟨.ret (.str x t),if sEq x (sg [10]) then lexO w.params X (n + 1) z.2.2 R (e + 1) B e1 else lexO w.params X n tn R (e + 1) B e1,[],z.1,z.2.1⟩):=by
  refine con_fn O (fn88 b w.params) (by decide) (ent88 b w.params N T (.ref X.a)) ?_
  intro A s h hz hA hu hN D hN1
  cases hc:sEq x (sg [10]) with
  | true=>
    refine code_run O hz (rc1t b w.params _ _ X N n R B x tn _ t e e1) D hN1 (HHx 2 ⟨⟨by decide,(con_lam1 O hX hR).mono (bd hA rfl) (bd hu rfl)⟩,fun z=>⟨by decide,conEq O hc⟩,fun _ _=>trivial,fun z z2=>?_⟩)
    intro h' D' hN'
    exact ⟨(_,_,_),rfl,aft_plain (q:=⟨_,lexO w.params X (n + 1) _ R (e + 1) B e1,[],_,_⟩) D' rfl hN' rfl⟩
  | false=>
    refine code_run O hz (rc1f b w.params _ _ X N n R B x tn _ t e e1) D hN1 (HHx 2 ⟨⟨by decide,(con_lam1 O hX hR).mono (bd hA rfl) (bd hu rfl)⟩,fun z=>⟨by decide,conEq O hc⟩,fun _ _=>trivial,fun z z2=>?_⟩)
    intro h' D' hN'
    exact ⟨(_,_,0),rfl,aft_plain (q:=⟨_,lexO w.params X n tn R (e + 1) B e1,[],_,_⟩) D' rfl hN' rfl⟩
theorem con_rc0 {N T:Nat} {X:LX} {n:Int} {tn:Tok} {B:List Value} {e e1:Nat} (hX:codeHas (fds "code" X.cvs) qLam = true) :
    CG w b 570 5700 (.call (.ref 88) ⟨[.ref X.a],[]⟩) (lexL w.params X n tn [] e B e1) N T
      (fun z:Nat × Nat × Tok=>⟨.ret (.str (sg []) z.2.2),lexO w.params X n tn [] e B e1,[],z.1,z.2.1⟩):=by
  refine con_fn O (fn88 b w.params) (by decide) (ent88 b w.params N T (.ref X.a)) ?_
  intro A s h hz hA hu hN D hN1
  refine code_run O hz (rc0 b w.params _ _ X N n [] B (sg []) tn _ 0 e e1) D hN1 (HHx 1 ⟨⟨by decide,(con_lam0 O hX).mono (bd hA rfl) (bd hu rfl)⟩,fun _=>trivial,fun z=>?_⟩)
  intro h' D' hN'
  exact ⟨(z.1,z.2.1 + 2,z.2.2),rfl,aft_plain (q:=⟨_,lexO w.params X n tn [] e B e1,[],_,_⟩) D' rfl hN' rfl⟩
end
end Mine
end
section
namespace Mine
section
variable (b:Bool) (P:Params) (N T:Nat)
theorem gtQ0 (X:LX) (aF:Addr) (n:Int) (R:List Value) (tn t0 t21 t22:Tok) (e e1:Nat):Sg b P 227 [10,1,0,0,0,1,0,0,0,1,1,0,2,9,9,9,9,9,10,10,0,0,10,1,0,0,0,1,0,0,0,0,0,0,1,1,0,2,0,0,0,0,11,10,10,10,12,12,12,12,12,12,12,12,11,0,11,12,12,10,10,10,10,1,0,0,0,1,0,0,0,1,1,0,2,10,10,12,12,12,12,12,12,12,12,11,0,11,12,12,10,10,10,10] [0,0,0,0,0,0,0,0,0,0,0,0,0,0,0,1,0,0,0,0,0,0,0,0,0,0,0,0,0,1,0,0,0,0] (cd95 aF) (lexL P X n tn (sn (sn R (.str J15 t22)) (.str J15 t21)) e [] e1++[(aF,(frm P [(J7,t0,(.ref X.a))] 1))]) N T (.ask (Nat × Nat × Tok) ⟨(.call (.ref 88) ⟨[(.ref X.a)],[]⟩),1,4,(lexL P X n tn (sn (sn R (.str J15 t22)) (.str J15 t21)) e [] e1),(N + 2),(T + 8)⟩ [0,1,2,3,4,5,6,7,8] (fun z1=>⟨(.ret (.str J15 t21)),(lexO P X n tn (sn R (.str J15 t22)) (e + 1) [] e1),[],z1.1,z1.2.1⟩) fun z1=>.ask (Nat × Nat × Tok) ⟨(.call (.ref 88) ⟨[(.ref X.a)],[]⟩),1,4,(lexL P X n tn (sn R (.str J15 t22)) (e + 1) [] e1),z1.1,(z1.2.1 + 3)⟩ [0,1,2,3,4,5,6,7,8] (fun z2=>⟨(.ret (.str J15 t22)),(lexO P X n tn R (e + 2) [] e1),[],z2.1,z2.2.1⟩) fun z2=>.fin (.ok (.done (.ret (.str J10 (T + 3))))) (lexL P X n tn R (e + 2) [] e1++[(aF,(frm P [(J7,t0,(.ref X.a)),(J30,(T + 4),(.str J10 (T + 3))),(J34,(T + 7),(.ref (N + 1))),(J51,z1.2.1,(.str J15 t22))] 4)),(N,(fds "method" [(.ref 88),(.ref X.a)])),((N + 1),(fds "callable_iterator" [(.ref N),(.str J10 (T + 6)),(.bool false)]))]) z2.1 (z2.2.1 + 2)):=fx 2 ⟨⟨(0,0,0)⟩,fun z1=>⟨(0,0,0)⟩,fun z1 z2=>trivial⟩ (by kernel_rfl)
theorem gtQ1 (X:LX) (aF:Addr) (n:Int) (R:List Value) (tn t0 t21 t22 t23:Tok) (e e1:Nat):Sg b P 289 [10,1,0,0,0,1,0,0,0,1,1,0,2,9,9,9,9,9,10,10,0,0,10,1,0,0,0,1,0,0,0,0,0,0,1,1,0,2,0,0,0,0,11,10,10,10,12,12,12,12,12,12,12,12,11,0,11,12,12,10,10,10,10,1,0,0,0,1,0,0,0,1,1,0,2,10,10,12,12,12,12,12,12,12,12,11,0,11,12,12,10,10,10,10,10,10,10,10,12,12,12,12,11,0,11,12,12,10,10,10,10] [0,0,0,0,0,0,0,0,0,0,0,0,0,0,0,1,0,0,0,0,0,0,0,0,0,0,0,0,0,1,0,0,0,0,0,0,0,0,0,0,0,0,1,0,0,0,0] (cd95 aF) (lexL P X n tn (sn (sn (sn R (.str J15 t23)) (.str J31 t22)) (.str J15 t21)) e [] e1++[(aF,(frm P [(J7,t0,(.ref X.a))] 1))]) N T (.ask (Nat × Nat × Tok) ⟨(.call (.ref 88) ⟨[(.ref X.a)],[]⟩),1,4,(lexL P X n tn (sn (sn (sn R (.str J15 t23)) (.str J31 t22)) (.str J15 t21)) e [] e1),(N + 2),(T + 8)⟩ [0,1,2,3,4,5,6,7,8] (fun z1=>⟨(.ret (.str J15 t21)),(lexO P X n tn (sn (sn R (.str J15 t23)) (.str J31 t22)) (e + 1) [] e1),[],z1.1,z1.2.1⟩) fun z1=>.ask (Nat × Nat × Tok) ⟨(.call (.ref 88) ⟨[(.ref X.a)],[]⟩),1,4,(lexL P X n tn (sn (sn R (.str J15 t23)) (.str J31 t22)) (e + 1) [] e1),z1.1,(z1.2.1 + 3)⟩ [0,1,2,3,4,5,6,7,8] (fun z2=>⟨(.ret (.str J31 t22)),(lexO P X (n + 1) z2.2.2 (sn R (.str J15 t23)) (e + 2) [] e1),[],z2.1,z2.2.1⟩) fun z2=>.ask (Nat × Nat × Tok) ⟨(.call (.ref 88) ⟨[(.ref X.a)],[]⟩),1,4,(lexL P X (n + 1) z2.2.2 (sn R (.str J15 t23)) (e + 2) [] e1),z2.1,(z2.2.1 + 4)⟩ [0,1,2,3,4,5,6,7,8] (fun z3=>⟨(.ret (.str J15 t23)),(lexO P X (n + 1) z2.2.2 R (e + 3) [] e1),[],z3.1,z3.2.1⟩) fun z3=>.fin (.ok (.done (.ret (.str J31 t22)))) (lexL P X (n + 1) z2.2.2 R (e + 3) [] e1++[(aF,(frm P [(J7,t0,(.ref X.a)),(J30,(T + 4),(.str J31 t22)),(J34,(T + 7),(.ref (N + 1))),(J51,z1.2.1,(.str J15 t23))] 4)),(N,(fds "method" [(.ref 88),(.ref X.a)])),((N + 1),(fds "callable_iterator" [(.ref N),(.str J10 (T + 6)),(.bool false)]))]) z3.1 (z3.2.1 + 2)):=fx 3 ⟨⟨(0,0,0)⟩,fun z1=>⟨(0,0,0)⟩,fun z1 z2=>⟨(0,0,0)⟩,fun z1 z2 z3=>trivial⟩ (by kernel_rfl)
theorem gtQ2 (X:LX) (aF:Addr) (n:Int) (R:List Value) (tn t0 t21 t22 t23 t24:Tok) (e e1:Nat):Sg b P 320 [10,1,0,0,0,1,0,0,0,1,1,0,2,9,9,9,9,9,10,10,0,0,10,1,0,0,0,1,0,0,0,0,0,0,1,1,0,2,0,0,0,0,11,10,10,10,12,12,12,12,12,12,12,12,11,0,11,12,12,10,10,10,10,1,0,0,0,1,0,0,0,1,1,0,2,10,10,12,12,12,12,12,12,12,12,11,0,11,12,12,10,10,10,10,10,1,0,0,0,1,0,0,0,1,0,0,0,0,1,2,0,10,10,10,10,10,10,12,12,12,12,11,0,11,12,12,10,10,10,10] [0,0,0,0,0,0,0,0,0,0,0,0,0,0,0,1,0,0,0,0,0,0,0,0,0,0,0,0,0,1,0,0,0,0,0,0,1,0,0,0,0,0,0,1,0,0,0,0] (cd95 aF) (lexL P X n tn (sn (sn (sn (sn R (.str J15 t24)) (.str J15 t23)) (.str J23 t22)) (.str J15 t21)) e [] e1++[(aF,(frm P [(J7,t0,(.ref X.a))] 1))]) N T (.ask (Nat × Nat × Tok) ⟨(.call (.ref 88) ⟨[(.ref X.a)],[]⟩),1,4,(lexL P X n tn (sn (sn (sn (sn R (.str J15 t24)) (.str J15 t23)) (.str J23 t22)) (.str J15 t21)) e [] e1),(N + 2),(T + 8)⟩ [0,1,2,3,4,5,6,7,8] (fun z1=>⟨(.ret (.str J15 t21)),(lexO P X n tn (sn (sn (sn R (.str J15 t24)) (.str J15 t23)) (.str J23 t22)) (e + 1) [] e1),[],z1.1,z1.2.1⟩) fun z1=>.ask (Nat × Nat × Tok) ⟨(.call (.ref 88) ⟨[(.ref X.a)],[]⟩),1,4,(lexL P X n tn (sn (sn (sn R (.str J15 t24)) (.str J15 t23)) (.str J23 t22)) (e + 1) [] e1),z1.1,(z1.2.1 + 3)⟩ [0,1,2,3,4,5,6,7,8] (fun z2=>⟨(.ret (.str J23 t22)),(lexO P X n tn (sn (sn R (.str J15 t24)) (.str J15 t23)) (e + 2) [] e1),[],z2.1,z2.2.1⟩) fun z2=>.ask (Nat × Nat × Tok) ⟨(.call (.ref 88) ⟨[(.ref X.a)],[]⟩),1,3,(lexL P X n tn (sn (sn R (.str J15 t24)) (.str J15 t23)) (e + 2) [] e1),z2.1,(z2.2.1 + 3)⟩ [0,1,2,3,4,5,6,7,8] (fun z3=>⟨(.ret (.str J15 t23)),(lexO P X n tn (sn R (.str J15 t24)) (e + 3) [] e1),[],z3.1,z3.2.1⟩) fun z3=>.ask (Nat × Nat × Tok) ⟨(.call (.ref 88) ⟨[(.ref X.a)],[]⟩),1,4,(lexL P X n tn (sn R (.str J15 t24)) (e + 3) [] e1),z3.1,(z3.2.1 + 2)⟩ [0,1,2,3,4,5,6,7,8] (fun z4=>⟨(.ret (.str J15 t24)),(lexO P X n tn R (e + 4) [] e1),[],z4.1,z4.2.1⟩) fun z4=>.fin (.ok (.done (.ret (.str J15 t23)))) (lexL P X n tn R (e + 4) [] e1++[(aF,(frm P [(J7,t0,(.ref X.a)),(J30,(T + 4),(.str J15 t23)),(J34,(T + 7),(.ref (N + 1))),(J51,z1.2.1,(.str J15 t24))] 4)),(N,(fds "method" [(.ref 88),(.ref X.a)])),((N + 1),(fds "callable_iterator" [(.ref N),(.str J10 (T + 6)),(.bool false)]))]) z4.1 (z4.2.1 + 2)):=fx 4 ⟨⟨(0,0,0)⟩,fun z1=>⟨(0,0,0)⟩,fun z1 z2=>⟨(0,0,0)⟩,fun z1 z2 z3=>⟨(0,0,0)⟩,fun z1 z2 z3 z4=>trivial⟩ (by kernel_rfl)
theorem gtQ3 (X:LX) (aF:Addr) (n:Int) (R:List Value) (tn t0 t21 t22 t23 t24:Tok) (e e1:Nat):Sg b P 320 [10,1,0,0,0,1,0,0,0,1,1,0,2,9,9,9,9,9,10,10,0,0,10,1,0,0,0,1,0,0,0,0,0,0,1,1,0,2,0,0,0,0,11,10,10,10,12,12,12,12,12,12,12,12,11,0,11,12,12,10,10,10,10,1,0,0,0,1,0,0,0,1,1,0,2,10,10,12,12,12,12,12,12,12,12,11,0,11,12,12,10,10,10,10,10,1,0,0,0,1,0,0,0,1,0,0,0,0,1,2,0,10,10,10,10,10,10,12,12,12,12,11,0,11,12,12,10,10,10,10] [0,0,0,0,0,0,0,0,0,0,0,0,0,0,0,1,0,0,0,0,0,0,0,0,0,0,0,0,0,1,0,0,0,0,0,0,1,0,0,0,0,0,0,1,0,0,0,0] (cd95 aF) (lexL P X n tn (sn (sn (sn (sn R (.str J15 t24)) (.str J23 t23)) (.str J23 t22)) (.str J15 t21)) e [] e1++[(aF,(frm P [(J7,t0,(.ref X.a))] 1))]) N T (.ask (Nat × Nat × Tok) ⟨(.call (.ref 88) ⟨[(.ref X.a)],[]⟩),1,4,(lexL P X n tn (sn (sn (sn (sn R (.str J15 t24)) (.str J23 t23)) (.str J23 t22)) (.str J15 t21)) e [] e1),(N + 2),(T + 8)⟩ [0,1,2,3,4,5,6,7,8] (fun z1=>⟨(.ret (.str J15 t21)),(lexO P X n tn (sn (sn (sn R (.str J15 t24)) (.str J23 t23)) (.str J23 t22)) (e + 1) [] e1),[],z1.1,z1.2.1⟩) fun z1=>.ask (Nat × Nat × Tok) ⟨(.call (.ref 88) ⟨[(.ref X.a)],[]⟩),1,4,(lexL P X n tn (sn (sn (sn R (.str J15 t24)) (.str J23 t23)) (.str J23 t22)) (e + 1) [] e1),z1.1,(z1.2.1 + 3)⟩ [0,1,2,3,4,5,6,7,8] (fun z2=>⟨(.ret (.str J23 t22)),(lexO P X n tn (sn (sn R (.str J15 t24)) (.str J23 t23)) (e + 2) [] e1),[],z2.1,z2.2.1⟩) fun z2=>.ask (Nat × Nat × Tok) ⟨(.call (.ref 88) ⟨[(.ref X.a)],[]⟩),1,3,(lexL P X n tn (sn (sn R (.str J15 t24)) (.str J23 t23)) (e + 2) [] e1),z2.1,(z2.2.1 + 3)⟩ [0,1,2,3,4,5,6,7,8] (fun z3=>⟨(.ret (.str J23 t23)),(lexO P X n tn (sn R (.str J15 t24)) (e + 3) [] e1),[],z3.1,z3.2.1⟩) fun z3=>.ask (Nat × Nat × Tok) ⟨(.call (.ref 88) ⟨[(.ref X.a)],[]⟩),1,4,(lexL P X n tn (sn R (.str J15 t24)) (e + 3) [] e1),z3.1,(z3.2.1 + 2)⟩ [0,1,2,3,4,5,6,7,8] (fun z4=>⟨(.ret (.str J15 t24)),(lexO P X n tn R (e + 4) [] e1),[],z4.1,z4.2.1⟩) fun z4=>.fin (.ok (.done (.ret (.str J23 t23)))) (lexL P X n tn R (e + 4) [] e1++[(aF,(frm P [(J7,t0,(.ref X.a)),(J30,(T + 4),(.str J23 t23)),(J34,(T + 7),(.ref (N + 1))),(J51,z1.2.1,(.str J15 t24))] 4)),(N,(fds "method" [(.ref 88),(.ref X.a)])),((N + 1),(fds "callable_iterator" [(.ref N),(.str J10 (T + 6)),(.bool false)]))]) z4.1 (z4.2.1 + 2)):=fx 4 ⟨⟨(0,0,0)⟩,fun z1=>⟨(0,0,0)⟩,fun z1 z2=>⟨(0,0,0)⟩,fun z1 z2 z3=>⟨(0,0,0)⟩,fun z1 z2 z3 z4=>trivial⟩ (by kernel_rfl)
theorem gtQ4 (X:LX) (aF:Addr) (n:Int) (R:List Value) (tn t0 t21 t22 t23:Tok) (e e1:Nat):Sg b P 289 [10,1,0,0,0,1,0,0,0,1,1,0,2,9,9,9,9,9,10,10,0,0,10,1,0,0,0,1,0,0,0,0,0,0,1,1,0,2,0,0,0,0,11,10,10,10,12,12,12,12,12,12,12,12,11,0,11,12,12,10,10,10,10,1,0,0,0,1,0,0,0,1,1,0,2,10,10,12,12,12,12,12,12,12,12,11,0,11,12,12,10,10,10,10,10,10,10,10,12,12,12,12,11,0,11,12,12,10,10,10,10] [0,0,0,0,0,0,0,0,0,0,0,0,0,0,0,1,0,0,0,0,0,0,0,0,0,0,0,0,0,1,0,0,0,0,0,0,0,0,0,0,0,0,1,0,0,0,0] (cd95 aF) (lexL P X n tn (sn (sn (sn R (.str J15 t23)) (.str J21 t22)) (.str J15 t21)) e [] e1++[(aF,(frm P [(J7,t0,(.ref X.a))] 1))]) N T (.ask (Nat × Nat × Tok) ⟨(.call (.ref 88) ⟨[(.ref X.a)],[]⟩),1,4,(lexL P X n tn (sn (sn (sn R (.str J15 t23)) (.str J21 t22)) (.str J15 t21)) e [] e1),(N + 2),(T + 8)⟩ [0,1,2,3,4,5,6,7,8] (fun z1=>⟨(.ret (.str J15 t21)),(lexO P X n tn (sn (sn R (.str J15 t23)) (.str J21 t22)) (e + 1) [] e1),[],z1.1,z1.2.1⟩) fun z1=>.ask (Nat × Nat × Tok) ⟨(.call (.ref 88) ⟨[(.ref X.a)],[]⟩),1,4,(lexL P X n tn (sn (sn R (.str J15 t23)) (.str J21 t22)) (e + 1) [] e1),z1.1,(z1.2.1 + 3)⟩ [0,1,2,3,4,5,6,7,8] (fun z2=>⟨(.ret (.str J21 t22)),(lexO P X n tn (sn R (.str J15 t23)) (e + 2) [] e1),[],z2.1,z2.2.1⟩) fun z2=>.ask (Nat × Nat × Tok) ⟨(.call (.ref 88) ⟨[(.ref X.a)],[]⟩),1,4,(lexL P X n tn (sn R (.str J15 t23)) (e + 2) [] e1),z2.1,(z2.2.1 + 4)⟩ [0,1,2,3,4,5,6,7,8] (fun z3=>⟨(.ret (.str J15 t23)),(lexO P X n tn R (e + 3) [] e1),[],z3.1,z3.2.1⟩) fun z3=>.fin (.ok (.done (.ret (.str J21 t22)))) (lexL P X n tn R (e + 3) [] e1++[(aF,(frm P [(J7,t0,(.ref X.a)),(J30,(T + 4),(.str J21 t22)),(J34,(T + 7),(.ref (N + 1))),(J51,z1.2.1,(.str J15 t23))] 4)),(N,(fds "method" [(.ref 88),(.ref X.a)])),((N + 1),(fds "callable_iterator" [(.ref N),(.str J10 (T + 6)),(.bool false)]))]) z3.1 (z3.2.1 + 2)):=fx 3 ⟨⟨(0,0,0)⟩,fun z1=>⟨(0,0,0)⟩,fun z1 z2=>⟨(0,0,0)⟩,fun z1 z2 z3=>trivial⟩ (by kernel_rfl)
theorem gtB1 (X:LX) (aF:Addr) (n:Int) (R:List Value) (tn t0 t21 t22 t23:Tok) (e e1:Nat):Sg b P 301 [10,1,0,0,0,1,0,0,0,1,1,0,2,9,9,9,9,9,10,10,0,0,10,1,0,0,0,1,0,0,0,0,0,0,1,1,0,2,0,0,0,0,11,10,10,10,12,12,12,12,12,12,12,12,11,0,11,12,12,10,10,10,10,1,0,0,0,1,0,0,0,1,1,0,2,10,10,10,1,0,0,0,1,0,0,0,1,0,0,0,0,1,2,0,10,10,10,10,10,10,10,12,12,12,12,12,12,12,12,11,0,11,12,12,10,10,10,10,1,0,0,0,1,0,0,0,1,1,0,2,10] [0,0,0,0,0,0,0,0,0,0,0,0,0,0,0,1,0,0,0,0,0,0,0,0,0,1,0,0,0,0,0,0,0,0,1,0,0,0,0,0] (cd95 aF) (lexL P X n tn (sn (sn (sn R (.str J36 t23)) (.str J31 t22)) (.str J23 t21)) e [] e1++[(aF,(frm P [(J7,t0,(.ref X.a))] 1))]) N T (.ask (Nat × Nat × Tok) ⟨(.call (.ref 88) ⟨[(.ref X.a)],[]⟩),1,4,(lexL P X n tn (sn (sn (sn R (.str J36 t23)) (.str J31 t22)) (.str J23 t21)) e [] e1),(N + 2),(T + 8)⟩ [0,1,2,3,4,5,6,7,8] (fun z1=>⟨(.ret (.str J23 t21)),(lexO P X n tn (sn (sn R (.str J36 t23)) (.str J31 t22)) (e + 1) [] e1),[],z1.1,z1.2.1⟩) fun z1=>.ask (Nat × Nat × Tok) ⟨(.call (.ref 88) ⟨[(.ref X.a)],[]⟩),1,3,(lexL P X n tn (sn (sn R (.str J36 t23)) (.str J31 t22)) (e + 1) [] e1),z1.1,(z1.2.1 + 4)⟩ [0,1,2,3,4,5,6,7,8] (fun z2=>⟨(.ret (.str J31 t22)),(lexO P X (n + 1) z2.2.2 (sn R (.str J36 t23)) (e + 2) [] e1),[],z2.1,z2.2.1⟩) fun z2=>.ask (Nat × Nat × Tok) ⟨(.call (.ref 88) ⟨[(.ref X.a)],[]⟩),1,4,(lexL P X (n + 1) z2.2.2 (sn R (.str J36 t23)) (e + 2) [] e1),z2.1,(z2.2.1 + 2)⟩ [0,1,2,3,4,5,6,7,8] (fun z3=>⟨(.ret (.str J36 t23)),(lexO P X (n + 1) z2.2.2 R (e + 3) [] e1),[],z3.1,z3.2.1⟩) fun z3=>.fin (.ok (.done (.ret (.str J31 t22)))) (lexL P X (n + 1) z2.2.2 R (e + 3) [] e1++[(aF,(frm P [(J7,t0,(.ref X.a)),(J30,(T + 4),(.str J31 t22)),(J34,(T + 7),(.ref (N + 1))),(J51,z1.2.1,(.str J36 t23))] 4)),(N,(fds "method" [(.ref 88),(.ref X.a)])),((N + 1),(fds "callable_iterator" [(.ref N),(.str J10 (T + 6)),(.bool false)]))]) z3.1 (z3.2.1 + 2)):=fx 3 ⟨⟨(0,0,0)⟩,fun z1=>⟨(0,0,0)⟩,fun z1 z2=>⟨(0,0,0)⟩,fun z1 z2 z3=>trivial⟩ (by kernel_rfl)
theorem gtB2 (X:LX) (aF:Addr) (n:Int) (R:List Value) (tn t0 t21 t22 t23:Tok) (e e1:Nat):Sg b P 301 [10,1,0,0,0,1,0,0,0,1,1,0,2,9,9,9,9,9,10,10,0,0,10,1,0,0,0,1,0,0,0,0,0,0,1,1,0,2,0,0,0,0,11,10,10,10,12,12,12,12,12,12,12,12,11,0,11,12,12,10,10,10,10,1,0,0,0,1,0,0,0,1,1,0,2,10,10,10,1,0,0,0,1,0,0,0,1,0,0,0,0,1,2,0,10,10,10,10,10,10,10,12,12,12,12,12,12,12,12,11,0,11,12,12,10,10,10,10,1,0,0,0,1,0,0,0,1,1,0,2,10] [0,0,0,0,0,0,0,0,0,0,0,0,0,0,0,1,0,0,0,0,0,0,0,0,0,1,0,0,0,0,0,0,0,0,1,0,0,0,0,0] (cd95 aF) (lexL P X n tn (sn (sn (sn R (.str J36 t23)) (.str J15 t22)) (.str J23 t21)) e [] e1++[(aF,(frm P [(J7,t0,(.ref X.a))] 1))]) N T (.ask (Nat × Nat × Tok) ⟨(.call (.ref 88) ⟨[(.ref X.a)],[]⟩),1,4,(lexL P X n tn (sn (sn (sn R (.str J36 t23)) (.str J15 t22)) (.str J23 t21)) e [] e1),(N + 2),(T + 8)⟩ [0,1,2,3,4,5,6,7,8] (fun z1=>⟨(.ret (.str J23 t21)),(lexO P X n tn (sn (sn R (.str J36 t23)) (.str J15 t22)) (e + 1) [] e1),[],z1.1,z1.2.1⟩) fun z1=>.ask (Nat × Nat × Tok) ⟨(.call (.ref 88) ⟨[(.ref X.a)],[]⟩),1,3,(lexL P X n tn (sn (sn R (.str J36 t23)) (.str J15 t22)) (e + 1) [] e1),z1.1,(z1.2.1 + 4)⟩ [0,1,2,3,4,5,6,7,8] (fun z2=>⟨(.ret (.str J15 t22)),(lexO P X n tn (sn R (.str J36 t23)) (e + 2) [] e1),[],z2.1,z2.2.1⟩) fun z2=>.ask (Nat × Nat × Tok) ⟨(.call (.ref 88) ⟨[(.ref X.a)],[]⟩),1,4,(lexL P X n tn (sn R (.str J36 t23)) (e + 2) [] e1),z2.1,(z2.2.1 + 2)⟩ [0,1,2,3,4,5,6,7,8] (fun z3=>⟨(.ret (.str J36 t23)),(lexO P X n tn R (e + 3) [] e1),[],z3.1,z3.2.1⟩) fun z3=>.fin (.ok (.done (.ret (.str J15 t22)))) (lexL P X n tn R (e + 3) [] e1++[(aF,(frm P [(J7,t0,(.ref X.a)),(J30,(T + 4),(.str J15 t22)),(J34,(T + 7),(.ref (N + 1))),(J51,z1.2.1,(.str J36 t23))] 4)),(N,(fds "method" [(.ref 88),(.ref X.a)])),((N + 1),(fds "callable_iterator" [(.ref N),(.str J10 (T + 6)),(.bool false)]))]) z3.1 (z3.2.1 + 2)):=fx 3 ⟨⟨(0,0,0)⟩,fun z1=>⟨(0,0,0)⟩,fun z1 z2=>⟨(0,0,0)⟩,fun z1 z2 z3=>trivial⟩ (by kernel_rfl)
theorem gtB3 (X:LX) (aF:Addr) (n:Int) (R:List Value) (tn t0 t21 t22 t23:Tok) (e e1:Nat):Sg b P 301 [10,1,0,0,0,1,0,0,0,1,1,0,2,9,9,9,9,9,10,10,0,0,10,1,0,0,0,1,0,0,0,0,0,0,1,1,0,2,0,0,0,0,11,10,10,10,12,12,12,12,12,12,12,12,11,0,11,12,12,10,10,10,10,1,0,0,0,1,0,0,0,1,1,0,2,10,10,10,1,0,0,0,1,0,0,0,1,0,0,0,0,1,2,0,10,10,10,10,10,10,10,12,12,12,12,12,12,12,12,11,0,11,12,12,10,10,10,10,1,0,0,0,1,0,0,0,1,1,0,2,10] [0,0,0,0,0,0,0,0,0,0,0,0,0,0,0,1,0,0,0,0,0,0,0,0,0,1,0,0,0,0,0,0,0,0,1,0,0,0,0,0] (cd95 aF) (lexL P X n tn (sn (sn (sn R (.str J36 t23)) (.str J23 t22)) (.str J23 t21)) e [] e1++[(aF,(frm P [(J7,t0,(.ref X.a))] 1))]) N T (.ask (Nat × Nat × Tok) ⟨(.call (.ref 88) ⟨[(.ref X.a)],[]⟩),1,4,(lexL P X n tn (sn (sn (sn R (.str J36 t23)) (.str J23 t22)) (.str J23 t21)) e [] e1),(N + 2),(T + 8)⟩ [0,1,2,3,4,5,6,7,8] (fun z1=>⟨(.ret (.str J23 t21)),(lexO P X n tn (sn (sn R (.str J36 t23)) (.str J23 t22)) (e + 1) [] e1),[],z1.1,z1.2.1⟩) fun z1=>.ask (Nat × Nat × Tok) ⟨(.call (.ref 88) ⟨[(.ref X.a)],[]⟩),1,3,(lexL P X n tn (sn (sn R (.str J36 t23)) (.str J23 t22)) (e + 1) [] e1),z1.1,(z1.2.1 + 4)⟩ [0,1,2,3,4,5,6,7,8] (fun z2=>⟨(.ret (.str J23 t22)),(lexO P X n tn (sn R (.str J36 t23)) (e + 2) [] e1),[],z2.1,z2.2.1⟩) fun z2=>.ask (Nat × Nat × Tok) ⟨(.call (.ref 88) ⟨[(.ref X.a)],[]⟩),1,4,(lexL P X n tn (sn R (.str J36 t23)) (e + 2) [] e1),z2.1,(z2.2.1 + 2)⟩ [0,1,2,3,4,5,6,7,8] (fun z3=>⟨(.ret (.str J36 t23)),(lexO P X n tn R (e + 3) [] e1),[],z3.1,z3.2.1⟩) fun z3=>.fin (.ok (.done (.ret (.str J23 t22)))) (lexL P X n tn R (e + 3) [] e1++[(aF,(frm P [(J7,t0,(.ref X.a)),(J30,(T + 4),(.str J23 t22)),(J34,(T + 7),(.ref (N + 1))),(J51,z1.2.1,(.str J36 t23))] 4)),(N,(fds "method" [(.ref 88),(.ref X.a)])),((N + 1),(fds "callable_iterator" [(.ref N),(.str J10 (T + 6)),(.bool false)]))]) z3.1 (z3.2.1 + 2)):=fx 3 ⟨⟨(0,0,0)⟩,fun z1=>⟨(0,0,0)⟩,fun z1 z2=>⟨(0,0,0)⟩,fun z1 z2 z3=>trivial⟩ (by kernel_rfl)
theorem gtB4 (X:LX) (aF:Addr) (n:Int) (R:List Value) (tn t0 t21 t22 t23:Tok) (e e1:Nat):Sg b P 301 [10,1,0,0,0,1,0,0,0,1,1,0,2,9,9,9,9,9,10,10,0,0,10,1,0,0,0,1,0,0,0,0,0,0,1,1,0,2,0,0,0,0,11,10,10,10,12,12,12,12,12,12,12,12,11,0,11,12,12,10,10,10,10,1,0,0,0,1,0,0,0,1,1,0,2,10,10,10,1,0,0,0,1,0,0,0,1,0,0,0,0,1,2,0,10,10,10,10,10,10,10,12,12,12,12,12,12,12,12,11,0,11,12,12,10,10,10,10,1,0,0,0,1,0,0,0,1,1,0,2,10] [0,0,0,0,0,0,0,0,0,0,0,0,0,0,0,1,0,0,0,0,0,0,0,0,0,1,0,0,0,0,0,0,0,0,1,0,0,0,0,0] (cd95 aF) (lexL P X n tn (sn (sn (sn R (.str J36 t23)) (.str J21 t22)) (.str J23 t21)) e [] e1++[(aF,(frm P [(J7,t0,(.ref X.a))] 1))]) N T (.ask (Nat × Nat × Tok) ⟨(.call (.ref 88) ⟨[(.ref X.a)],[]⟩),1,4,(lexL P X n tn (sn (sn (sn R (.str J36 t23)) (.str J21 t22)) (.str J23 t21)) e [] e1),(N + 2),(T + 8)⟩ [0,1,2,3,4,5,6,7,8] (fun z1=>⟨(.ret (.str J23 t21)),(lexO P X n tn (sn (sn R (.str J36 t23)) (.str J21 t22)) (e + 1) [] e1),[],z1.1,z1.2.1⟩) fun z1=>.ask (Nat × Nat × Tok) ⟨(.call (.ref 88) ⟨[(.ref X.a)],[]⟩),1,3,(lexL P X n tn (sn (sn R (.str J36 t23)) (.str J21 t22)) (e + 1) [] e1),z1.1,(z1.2.1 + 4)⟩ [0,1,2,3,4,5,6,7,8] (fun z2=>⟨(.ret (.str J21 t22)),(lexO P X n tn (sn R (.str J36 t23)) (e + 2) [] e1),[],z2.1,z2.2.1⟩) fun z2=>.ask (Nat × Nat × Tok) ⟨(.call (.ref 88) ⟨[(.ref X.a)],[]⟩),1,4,(lexL P X n tn (sn R (.str J36 t23)) (e + 2) [] e1),z2.1,(z2.2.1 + 2)⟩ [0,1,2,3,4,5,6,7,8] (fun z3=>⟨(.ret (.str J36 t23)),(lexO P X n tn R (e + 3) [] e1),[],z3.1,z3.2.1⟩) fun z3=>.fin (.ok (.done (.ret (.str J21 t22)))) (lexL P X n tn R (e + 3) [] e1++[(aF,(frm P [(J7,t0,(.ref X.a)),(J30,(T + 4),(.str J21 t22)),(J34,(T + 7),(.ref (N + 1))),(J51,z1.2.1,(.str J36 t23))] 4)),(N,(fds "method" [(.ref 88),(.ref X.a)])),((N + 1),(fds "callable_iterator" [(.ref N),(.str J10 (T + 6)),(.bool false)]))]) z3.1 (z3.2.1 + 2)):=fx 3 ⟨⟨(0,0,0)⟩,fun z1=>⟨(0,0,0)⟩,fun z1 z2=>⟨(0,0,0)⟩,fun z1 z2 z3=>trivial⟩ (by kernel_rfl)
theorem gtP1 (X:LX) (aF:Addr) (n:Int) (S B:List Value) (x0:Str) (tn t0 t10:Tok) (e e1:Nat):Sg b P 70 [10,1,0,0,0,1,0,0,0,1,1,0,2,9,9,9,9,10,1,0,0,0,1,0,0,0,1,1,0,2,9,9,9,9,9] [0,0,0,1,0,0,1] (cd95 aF) (lexL P X n tn S e (.str x0 t10 :: B) e1++[(aF,(frm P [(J7,t0,(.ref X.a))] 1))]) N T (.ask Unit ⟨(.builtin "list.__len__" ⟨[(.ref X.pb)],[]⟩),1,4,[(X.pb,(lst (.str x0 t10 :: B) e1))],N,(T + 1)⟩ [8] (fun z1=>⟨(.ret (.int 1 (T + 1))),[(lst (.str x0 t10 :: B) e1)],[],N,(T + 2)⟩) fun z1=>.ask Unit ⟨(.builtin "list.pop" ⟨[(.ref X.pb),(.int 0 (T + 4))],[]⟩),1,3,[(X.pb,(lst (.str x0 t10 :: B) e1))],N,(T + 5)⟩ [8] (fun z2=>⟨(.ret (.str x0 t10)),[(lst B (e1 + 1))],[],N,(T + 5)⟩) fun z2=>.fin (.ok (.done (.ret (.str x0 t10)))) (lexL P X n tn S e B (e1 + 1)++[(aF,(frm P [(J7,t0,(.ref X.a))] 1))]) N (T + 5)):=fx 2 ⟨⟨()⟩,fun z1=>⟨()⟩,fun z1 z2=>trivial⟩ (by kernel_rfl)
theorem gtP2 (X:LX) (aF:Addr) (n:Int) (S B:List Value) (x0:Str) (tn t0 t10:Tok) (e e1:Nat):Sg b P 70 [10,1,0,0,0,1,0,0,0,1,1,0,2,9,9,9,9,10,1,0,0,0,1,0,0,0,1,1,0,2,9,9,9,9,9] [0,0,0,1,0,0,1] (cd95 aF) (lexL P X n tn S e (.str x0 t10 :: B) e1++[(aF,(frm P [(J7,t0,(.ref X.a))] 1))]) N T (.ask Unit ⟨(.builtin "list.__len__" ⟨[(.ref X.pb)],[]⟩),1,4,[(X.pb,(lst (.str x0 t10 :: B) e1))],N,(T + 1)⟩ [8] (fun z1=>⟨(.ret (.int 2 (T + 1))),[(lst (.str x0 t10 :: B) e1)],[],N,(T + 2)⟩) fun z1=>.ask Unit ⟨(.builtin "list.pop" ⟨[(.ref X.pb),(.int 0 (T + 4))],[]⟩),1,3,[(X.pb,(lst (.str x0 t10 :: B) e1))],N,(T + 5)⟩ [8] (fun z2=>⟨(.ret (.str x0 t10)),[(lst B (e1 + 1))],[],N,(T + 5)⟩) fun z2=>.fin (.ok (.done (.ret (.str x0 t10)))) (lexL P X n tn S e B (e1 + 1)++[(aF,(frm P [(J7,t0,(.ref X.a))] 1))]) N (T + 5)):=fx 2 ⟨⟨()⟩,fun z1=>⟨()⟩,fun z1 z2=>trivial⟩ (by kernel_rfl)
theorem gtP3 (X:LX) (aF:Addr) (n:Int) (S B:List Value) (x0:Str) (tn t0 t10:Tok) (e e1:Nat):Sg b P 70 [10,1,0,0,0,1,0,0,0,1,1,0,2,9,9,9,9,10,1,0,0,0,1,0,0,0,1,1,0,2,9,9,9,9,9] [0,0,0,1,0,0,1] (cd95 aF) (lexL P X n tn S e (.str x0 t10 :: B) e1++[(aF,(frm P [(J7,t0,(.ref X.a))] 1))]) N T (.ask Unit ⟨(.builtin "list.__len__" ⟨[(.ref X.pb)],[]⟩),1,4,[(X.pb,(lst (.str x0 t10 :: B) e1))],N,(T + 1)⟩ [8] (fun z1=>⟨(.ret (.int 3 (T + 1))),[(lst (.str x0 t10 :: B) e1)],[],N,(T + 2)⟩) fun z1=>.ask Unit ⟨(.builtin "list.pop" ⟨[(.ref X.pb),(.int 0 (T + 4))],[]⟩),1,3,[(X.pb,(lst (.str x0 t10 :: B) e1))],N,(T + 5)⟩ [8] (fun z2=>⟨(.ret (.str x0 t10)),[(lst B (e1 + 1))],[],N,(T + 5)⟩) fun z2=>.fin (.ok (.done (.ret (.str x0 t10)))) (lexL P X n tn S e B (e1 + 1)++[(aF,(frm P [(J7,t0,(.ref X.a))] 1))]) N (T + 5)):=fx 2 ⟨⟨()⟩,fun z1=>⟨()⟩,fun z1 z2=>trivial⟩ (by kernel_rfl)
theorem gtP4 (X:LX) (aF:Addr) (n:Int) (S B:List Value) (x0:Str) (tn t0 t10:Tok) (e e1:Nat):Sg b P 70 [10,1,0,0,0,1,0,0,0,1,1,0,2,9,9,9,9,10,1,0,0,0,1,0,0,0,1,1,0,2,9,9,9,9,9] [0,0,0,1,0,0,1] (cd95 aF) (lexL P X n tn S e (.str x0 t10 :: B) e1++[(aF,(frm P [(J7,t0,(.ref X.a))] 1))]) N T (.ask Unit ⟨(.builtin "list.__len__" ⟨[(.ref X.pb)],[]⟩),1,4,[(X.pb,(lst (.str x0 t10 :: B) e1))],N,(T + 1)⟩ [8] (fun z1=>⟨(.ret (.int 4 (T + 1))),[(lst (.str x0 t10 :: B) e1)],[],N,(T + 2)⟩) fun z1=>.ask Unit ⟨(.builtin "list.pop" ⟨[(.ref X.pb),(.int 0 (T + 4))],[]⟩),1,3,[(X.pb,(lst (.str x0 t10 :: B) e1))],N,(T + 5)⟩ [8] (fun z2=>⟨(.ret (.str x0 t10)),[(lst B (e1 + 1))],[],N,(T + 5)⟩) fun z2=>.fin (.ok (.done (.ret (.str x0 t10)))) (lexL P X n tn S e B (e1 + 1)++[(aF,(frm P [(J7,t0,(.ref X.a))] 1))]) N (T + 5)):=fx 2 ⟨⟨()⟩,fun z1=>⟨()⟩,fun z1 z2=>trivial⟩ (by kernel_rfl)
theorem gtP5 (X:LX) (aF:Addr) (n:Int) (S B:List Value) (x0:Str) (tn t0 t10:Tok) (e e1:Nat):Sg b P 70 [10,1,0,0,0,1,0,0,0,1,1,0,2,9,9,9,9,10,1,0,0,0,1,0,0,0,1,1,0,2,9,9,9,9,9] [0,0,0,1,0,0,1] (cd95 aF) (lexL P X n tn S e (.str x0 t10 :: B) e1++[(aF,(frm P [(J7,t0,(.ref X.a))] 1))]) N T (.ask Unit ⟨(.builtin "list.__len__" ⟨[(.ref X.pb)],[]⟩),1,4,[(X.pb,(lst (.str x0 t10 :: B) e1))],N,(T + 1)⟩ [8] (fun z1=>⟨(.ret (.int 5 (T + 1))),[(lst (.str x0 t10 :: B) e1)],[],N,(T + 2)⟩) fun z1=>.ask Unit ⟨(.builtin "list.pop" ⟨[(.ref X.pb),(.int 0 (T + 4))],[]⟩),1,3,[(X.pb,(lst (.str x0 t10 :: B) e1))],N,(T + 5)⟩ [8] (fun z2=>⟨(.ret (.str x0 t10)),[(lst B (e1 + 1))],[],N,(T + 5)⟩) fun z2=>.fin (.ok (.done (.ret (.str x0 t10)))) (lexL P X n tn S e B (e1 + 1)++[(aF,(frm P [(J7,t0,(.ref X.a))] 1))]) N (T + 5)):=fx 2 ⟨⟨()⟩,fun z1=>⟨()⟩,fun z1 z2=>trivial⟩ (by kernel_rfl)
theorem gtP6 (X:LX) (aF:Addr) (n:Int) (S B:List Value) (x0:Str) (tn t0 t10:Tok) (e e1:Nat):Sg b P 70 [10,1,0,0,0,1,0,0,0,1,1,0,2,9,9,9,9,10,1,0,0,0,1,0,0,0,1,1,0,2,9,9,9,9,9] [0,0,0,1,0,0,1] (cd95 aF) (lexL P X n tn S e (.str x0 t10 :: B) e1++[(aF,(frm P [(J7,t0,(.ref X.a))] 1))]) N T (.ask Unit ⟨(.builtin "list.__len__" ⟨[(.ref X.pb)],[]⟩),1,4,[(X.pb,(lst (.str x0 t10 :: B) e1))],N,(T + 1)⟩ [8] (fun z1=>⟨(.ret (.int 6 (T + 1))),[(lst (.str x0 t10 :: B) e1)],[],N,(T + 2)⟩) fun z1=>.ask Unit ⟨(.builtin "list.pop" ⟨[(.ref X.pb),(.int 0 (T + 4))],[]⟩),1,3,[(X.pb,(lst (.str x0 t10 :: B) e1))],N,(T + 5)⟩ [8] (fun z2=>⟨(.ret (.str x0 t10)),[(lst B (e1 + 1))],[],N,(T + 5)⟩) fun z2=>.fin (.ok (.done (.ret (.str x0 t10)))) (lexL P X n tn S e B (e1 + 1)++[(aF,(frm P [(J7,t0,(.ref X.a))] 1))]) N (T + 5)):=fx 2 ⟨⟨()⟩,fun z1=>⟨()⟩,fun z1 z2=>trivial⟩ (by kernel_rfl)
theorem gtP7 (X:LX) (aF:Addr) (n:Int) (S B:List Value) (x0:Str) (tn t0 t10:Tok) (e e1:Nat):Sg b P 70 [10,1,0,0,0,1,0,0,0,1,1,0,2,9,9,9,9,10,1,0,0,0,1,0,0,0,1,1,0,2,9,9,9,9,9] [0,0,0,1,0,0,1] (cd95 aF) (lexL P X n tn S e (.str x0 t10 :: B) e1++[(aF,(frm P [(J7,t0,(.ref X.a))] 1))]) N T (.ask Unit ⟨(.builtin "list.__len__" ⟨[(.ref X.pb)],[]⟩),1,4,[(X.pb,(lst (.str x0 t10 :: B) e1))],N,(T + 1)⟩ [8] (fun z1=>⟨(.ret (.int 7 (T + 1))),[(lst (.str x0 t10 :: B) e1)],[],N,(T + 2)⟩) fun z1=>.ask Unit ⟨(.builtin "list.pop" ⟨[(.ref X.pb),(.int 0 (T + 4))],[]⟩),1,3,[(X.pb,(lst (.str x0 t10 :: B) e1))],N,(T + 5)⟩ [8] (fun z2=>⟨(.ret (.str x0 t10)),[(lst B (e1 + 1))],[],N,(T + 5)⟩) fun z2=>.fin (.ok (.done (.ret (.str x0 t10)))) (lexL P X n tn S e B (e1 + 1)++[(aF,(frm P [(J7,t0,(.ref X.a))] 1))]) N (T + 5)):=fx 2 ⟨⟨()⟩,fun z1=>⟨()⟩,fun z1 z2=>trivial⟩ (by kernel_rfl)
theorem gtP8 (X:LX) (aF:Addr) (n:Int) (S B:List Value) (x0:Str) (tn t0 t10:Tok) (e e1:Nat):Sg b P 70 [10,1,0,0,0,1,0,0,0,1,1,0,2,9,9,9,9,10,1,0,0,0,1,0,0,0,1,1,0,2,9,9,9,9,9] [0,0,0,1,0,0,1] (cd95 aF) (lexL P X n tn S e (.str x0 t10 :: B) e1++[(aF,(frm P [(J7,t0,(.ref X.a))] 1))]) N T (.ask Unit ⟨(.builtin "list.__len__" ⟨[(.ref X.pb)],[]⟩),1,4,[(X.pb,(lst (.str x0 t10 :: B) e1))],N,(T + 1)⟩ [8] (fun z1=>⟨(.ret (.int 8 (T + 1))),[(lst (.str x0 t10 :: B) e1)],[],N,(T + 2)⟩) fun z1=>.ask Unit ⟨(.builtin "list.pop" ⟨[(.ref X.pb),(.int 0 (T + 4))],[]⟩),1,3,[(X.pb,(lst (.str x0 t10 :: B) e1))],N,(T + 5)⟩ [8] (fun z2=>⟨(.ret (.str x0 t10)),[(lst B (e1 + 1))],[],N,(T + 5)⟩) fun z2=>.fin (.ok (.done (.ret (.str x0 t10)))) (lexL P X n tn S e B (e1 + 1)++[(aF,(frm P [(J7,t0,(.ref X.a))] 1))]) N (T + 5)):=fx 2 ⟨⟨()⟩,fun z1=>⟨()⟩,fun z1 z2=>trivial⟩ (by kernel_rfl)
theorem gtP9 (X:LX) (aF:Addr) (n:Int) (S B:List Value) (x0:Str) (tn t0 t10:Tok) (e e1:Nat):Sg b P 70 [10,1,0,0,0,1,0,0,0,1,1,0,2,9,9,9,9,10,1,0,0,0,1,0,0,0,1,1,0,2,9,9,9,9,9] [0,0,0,1,0,0,1] (cd95 aF) (lexL P X n tn S e (.str x0 t10 :: B) e1++[(aF,(frm P [(J7,t0,(.ref X.a))] 1))]) N T (.ask Unit ⟨(.builtin "list.__len__" ⟨[(.ref X.pb)],[]⟩),1,4,[(X.pb,(lst (.str x0 t10 :: B) e1))],N,(T + 1)⟩ [8] (fun z1=>⟨(.ret (.int 9 (T + 1))),[(lst (.str x0 t10 :: B) e1)],[],N,(T + 2)⟩) fun z1=>.ask Unit ⟨(.builtin "list.pop" ⟨[(.ref X.pb),(.int 0 (T + 4))],[]⟩),1,3,[(X.pb,(lst (.str x0 t10 :: B) e1))],N,(T + 5)⟩ [8] (fun z2=>⟨(.ret (.str x0 t10)),[(lst B (e1 + 1))],[],N,(T + 5)⟩) fun z2=>.fin (.ok (.done (.ret (.str x0 t10)))) (lexL P X n tn S e B (e1 + 1)++[(aF,(frm P [(J7,t0,(.ref X.a))] 1))]) N (T + 5)):=fx 2 ⟨⟨()⟩,fun z1=>⟨()⟩,fun z1 z2=>trivial⟩ (by kernel_rfl)
theorem gtP10 (X:LX) (aF:Addr) (n:Int) (S B:List Value) (x0:Str) (tn t0 t10:Tok) (e e1:Nat):Sg b P 70 [10,1,0,0,0,1,0,0,0,1,1,0,2,9,9,9,9,10,1,0,0,0,1,0,0,0,1,1,0,2,9,9,9,9,9] [0,0,0,1,0,0,1] (cd95 aF) (lexL P X n tn S e (.str x0 t10 :: B) e1++[(aF,(frm P [(J7,t0,(.ref X.a))] 1))]) N T (.ask Unit ⟨(.builtin "list.__len__" ⟨[(.ref X.pb)],[]⟩),1,4,[(X.pb,(lst (.str x0 t10 :: B) e1))],N,(T + 1)⟩ [8] (fun z1=>⟨(.ret (.int 10 (T + 1))),[(lst (.str x0 t10 :: B) e1)],[],N,(T + 2)⟩) fun z1=>.ask Unit ⟨(.builtin "list.pop" ⟨[(.ref X.pb),(.int 0 (T + 4))],[]⟩),1,3,[(X.pb,(lst (.str x0 t10 :: B) e1))],N,(T + 5)⟩ [8] (fun z2=>⟨(.ret (.str x0 t10)),[(lst B (e1 + 1))],[],N,(T + 5)⟩) fun z2=>.fin (.ok (.done (.ret (.str x0 t10)))) (lexL P X n tn S e B (e1 + 1)++[(aF,(frm P [(J7,t0,(.ref X.a))] 1))]) N (T + 5)):=fx 2 ⟨⟨()⟩,fun z1=>⟨()⟩,fun z1 z2=>trivial⟩ (by kernel_rfl)
theorem gtP11 (X:LX) (aF:Addr) (n:Int) (S B:List Value) (x0:Str) (tn t0 t10:Tok) (e e1:Nat):Sg b P 70 [10,1,0,0,0,1,0,0,0,1,1,0,2,9,9,9,9,10,1,0,0,0,1,0,0,0,1,1,0,2,9,9,9,9,9] [0,0,0,1,0,0,1] (cd95 aF) (lexL P X n tn S e (.str x0 t10 :: B) e1++[(aF,(frm P [(J7,t0,(.ref X.a))] 1))]) N T (.ask Unit ⟨(.builtin "list.__len__" ⟨[(.ref X.pb)],[]⟩),1,4,[(X.pb,(lst (.str x0 t10 :: B) e1))],N,(T + 1)⟩ [8] (fun z1=>⟨(.ret (.int 11 (T + 1))),[(lst (.str x0 t10 :: B) e1)],[],N,(T + 2)⟩) fun z1=>.ask Unit ⟨(.builtin "list.pop" ⟨[(.ref X.pb),(.int 0 (T + 4))],[]⟩),1,3,[(X.pb,(lst (.str x0 t10 :: B) e1))],N,(T + 5)⟩ [8] (fun z2=>⟨(.ret (.str x0 t10)),[(lst B (e1 + 1))],[],N,(T + 5)⟩) fun z2=>.fin (.ok (.done (.ret (.str x0 t10)))) (lexL P X n tn S e B (e1 + 1)++[(aF,(frm P [(J7,t0,(.ref X.a))] 1))]) N (T + 5)):=fx 2 ⟨⟨()⟩,fun z1=>⟨()⟩,fun z1 z2=>trivial⟩ (by kernel_rfl)
theorem gtP12 (X:LX) (aF:Addr) (n:Int) (S B:List Value) (x0:Str) (tn t0 t10:Tok) (e e1:Nat):Sg b P 70 [10,1,0,0,0,1,0,0,0,1,1,0,2,9,9,9,9,10,1,0,0,0,1,0,0,0,1,1,0,2,9,9,9,9,9] [0,0,0,1,0,0,1] (cd95 aF) (lexL P X n tn S e (.str x0 t10 :: B) e1++[(aF,(frm P [(J7,t0,(.ref X.a))] 1))]) N T (.ask Unit ⟨(.builtin "list.__len__" ⟨[(.ref X.pb)],[]⟩),1,4,[(X.pb,(lst (.str x0 t10 :: B) e1))],N,(T + 1)⟩ [8] (fun z1=>⟨(.ret (.int 12 (T + 1))),[(lst (.str x0 t10 :: B) e1)],[],N,(T + 2)⟩) fun z1=>.ask Unit ⟨(.builtin "list.pop" ⟨[(.ref X.pb),(.int 0 (T + 4))],[]⟩),1,3,[(X.pb,(lst (.str x0 t10 :: B) e1))],N,(T + 5)⟩ [8] (fun z2=>⟨(.ret (.str x0 t10)),[(lst B (e1 + 1))],[],N,(T + 5)⟩) fun z2=>.fin (.ok (.done (.ret (.str x0 t10)))) (lexL P X n tn S e B (e1 + 1)++[(aF,(frm P [(J7,t0,(.ref X.a))] 1))]) N (T + 5)):=fx 2 ⟨⟨()⟩,fun z1=>⟨()⟩,fun z1 z2=>trivial⟩ (by kernel_rfl)
theorem gtP13 (X:LX) (aF:Addr) (n:Int) (S B:List Value) (x0:Str) (tn t0 t10:Tok) (e e1:Nat):Sg b P 70 [10,1,0,0,0,1,0,0,0,1,1,0,2,9,9,9,9,10,1,0,0,0,1,0,0,0,1,1,0,2,9,9,9,9,9] [0,0,0,1,0,0,1] (cd95 aF) (lexL P X n tn S e (.str x0 t10 :: B) e1++[(aF,(frm P [(J7,t0,(.ref X.a))] 1))]) N T (.ask Unit ⟨(.builtin "list.__len__" ⟨[(.ref X.pb)],[]⟩),1,4,[(X.pb,(lst (.str x0 t10 :: B) e1))],N,(T + 1)⟩ [8] (fun z1=>⟨(.ret (.int 13 (T + 1))),[(lst (.str x0 t10 :: B) e1)],[],N,(T + 2)⟩) fun z1=>.ask Unit ⟨(.builtin "list.pop" ⟨[(.ref X.pb),(.int 0 (T + 4))],[]⟩),1,3,[(X.pb,(lst (.str x0 t10 :: B) e1))],N,(T + 5)⟩ [8] (fun z2=>⟨(.ret (.str x0 t10)),[(lst B (e1 + 1))],[],N,(T + 5)⟩) fun z2=>.fin (.ok (.done (.ret (.str x0 t10)))) (lexL P X n tn S e B (e1 + 1)++[(aF,(frm P [(J7,t0,(.ref X.a))] 1))]) N (T + 5)):=fx 2 ⟨⟨()⟩,fun z1=>⟨()⟩,fun z1 z2=>trivial⟩ (by kernel_rfl)
theorem gtP14 (X:LX) (aF:Addr) (n:Int) (S B:List Value) (x0:Str) (tn t0 t10:Tok) (e e1:Nat):Sg b P 70 [10,1,0,0,0,1,0,0,0,1,1,0,2,9,9,9,9,10,1,0,0,0,1,0,0,0,1,1,0,2,9,9,9,9,9] [0,0,0,1,0,0,1] (cd95 aF) (lexL P X n tn S e (.str x0 t10 :: B) e1++[(aF,(frm P [(J7,t0,(.ref X.a))] 1))]) N T (.ask Unit ⟨(.builtin "list.__len__" ⟨[(.ref X.pb)],[]⟩),1,4,[(X.pb,(lst (.str x0 t10 :: B) e1))],N,(T + 1)⟩ [8] (fun z1=>⟨(.ret (.int 14 (T + 1))),[(lst (.str x0 t10 :: B) e1)],[],N,(T + 2)⟩) fun z1=>.ask Unit ⟨(.builtin "list.pop" ⟨[(.ref X.pb),(.int 0 (T + 4))],[]⟩),1,3,[(X.pb,(lst (.str x0 t10 :: B) e1))],N,(T + 5)⟩ [8] (fun z2=>⟨(.ret (.str x0 t10)),[(lst B (e1 + 1))],[],N,(T + 5)⟩) fun z2=>.fin (.ok (.done (.ret (.str x0 t10)))) (lexL P X n tn S e B (e1 + 1)++[(aF,(frm P [(J7,t0,(.ref X.a))] 1))]) N (T + 5)):=fx 2 ⟨⟨()⟩,fun z1=>⟨()⟩,fun z1 z2=>trivial⟩ (by kernel_rfl)
end
section
variable {w:World} {b:Bool} (O:(cfg b w.params).Ok PG w)
include O
theorem con_gtQ0 {N T:Nat} {X:LX} {n:Int} {tn:Tok} {R:List Value} {t21 t22:Tok} {e e1:Nat} (hX:codeHas (fds "code" X.cvs) qLam = true) (hR:R.length < 900) :
    CG w b 560 5600 (.call (.ref 95) ⟨[.ref X.a],[]⟩) (lexL w.params X n tn (sn (sn R (.str (sg [34]) t22)) (.str (sg [34]) t21)) e [] e1) N T
      (fun z:Nat × Nat × Tok × Tok=>⟨.ret (.str (sg []) z.2.2.1),lexO w.params X n tn R (e + 2) [] e1,[],z.1,z.2.1⟩):=by
  refine con_fn O (fn95 b w.params) (by decide) (ent95 b w.params N T (.ref X.a)) ?_
  intro A s h hz hA hu hN D hN1
  refine code_run O hz (gtQ0 b w.params _ _ X N n R tn _ t21 t22 e e1) D hN1 (HHx 2 ⟨⟨by decide,(con_rc1 (R:=(sn R (.str (sg [34]) t22))) O hX (by first | omega | (simp; omega))).mono (bd hA rfl) (bd hu rfl)⟩,fun z1=>⟨by decide,(con_rc1 (R:=R) O hX (by first | omega | (simp; omega))).mono (bd hA rfl) (bd hu rfl)⟩,fun _ _=>trivial,fun z1 z2=>?_⟩)
  intro h' D' hN'
  exact ⟨(_,_,_,tn),rfl,aft_plain (q:=⟨_,lexO w.params X n tn R (e + 2) [] e1,[],_,_⟩) D' rfl hN' rfl⟩
theorem con_gtQ1 {N T:Nat} {X:LX} {n:Int} {tn:Tok} {R:List Value} {t21 t22 t23:Tok} {e e1:Nat} (hX:codeHas (fds "code" X.cvs) qLam = true) (hR:R.length < 900) :
    CG w b 560 5600 (.call (.ref 95) ⟨[.ref X.a],[]⟩) (lexL w.params X n tn (sn (sn (sn R (.str (sg [34]) t23)) (.str (sg [10]) t22)) (.str (sg [34]) t21)) e [] e1) N T
      (fun z:Nat × Nat × Tok × Tok=>⟨.ret (.str (sg [10]) z.2.2.1),lexO w.params X (n + 1) z.2.2.2 R (e + 3) [] e1,[],z.1,z.2.1⟩):=by
  refine con_fn O (fn95 b w.params) (by decide) (ent95 b w.params N T (.ref X.a)) ?_
  intro A s h hz hA hu hN D hN1
  refine code_run O hz (gtQ1 b w.params _ _ X N n R tn _ t21 t22 t23 e e1) D hN1 (HHx 3 ⟨⟨by decide,(con_rc1 (R:=(sn (sn R (.str (sg [34]) t23)) (.str (sg [10]) t22))) O hX (by first | omega | (simp; omega))).mono (bd hA rfl) (bd hu rfl)⟩,fun z1=>⟨by decide,(con_rc1 (R:=(sn R (.str (sg [34]) t23))) O hX (by first | omega | (simp; omega))).mono (bd hA rfl) (bd hu rfl)⟩,fun z1 z2=>⟨by decide,(con_rc1 (R:=R) O hX (by first | omega | (simp; omega))).mono (bd hA rfl) (bd hu rfl)⟩,fun _ _ _=>trivial,fun z1 z2 z3=>?_⟩)
  intro h' D' hN'
  exact ⟨(_,_,_,z2.2.2),rfl,aft_plain (q:=⟨_,lexO w.params X (n + 1) z2.2.2 R (e + 3) [] e1,[],_,_⟩) D' rfl hN' rfl⟩
theorem con_gtQ2 {N T:Nat} {X:LX} {n:Int} {tn:Tok} {R:List Value} {t21 t22 t23 t24:Tok} {e e1:Nat} (hX:codeHas (fds "code" X.cvs) qLam = true) (hR:R.length < 900) :
    CG w b 560 5600 (.call (.ref 95) ⟨[.ref X.a],[]⟩) (lexL w.params X n tn (sn (sn (sn (sn R (.str (sg [34]) t24)) (.str (sg [34]) t23)) (.str (sg [92]) t22)) (.str (sg [34]) t21)) e [] e1) N T
      (fun z:Nat × Nat × Tok × Tok=>⟨.ret (.str (sg [34]) z.2.2.1),lexO w.params X n tn R (e + 4) [] e1,[],z.1,z.2.1⟩):=by
  refine con_fn O (fn95 b w.params) (by decide) (ent95 b w.params N T (.ref X.a)) ?_
  intro A s h hz hA hu hN D hN1
  refine code_run O hz (gtQ2 b w.params _ _ X N n R tn _ t21 t22 t23 t24 e e1) D hN1 (HHx 4 ⟨⟨by decide,(con_rc1 (R:=(sn (sn (sn R (.str (sg [34]) t24)) (.str (sg [34]) t23)) (.str (sg [92]) t22))) O hX (by first | omega | (simp; omega))).mono (bd hA rfl) (bd hu rfl)⟩,fun z1=>⟨by decide,(con_rc1 (R:=(sn (sn R (.str (sg [34]) t24)) (.str (sg [34]) t23))) O hX (by first | omega | (simp; omega))).mono (bd hA rfl) (bd hu rfl)⟩,fun z1 z2=>⟨by decide,(con_rc1 (R:=(sn R (.str (sg [34]) t24))) O hX (by first | omega | (simp; omega))).mono (bd hA rfl) (bd hu rfl)⟩,fun z1 z2 z3=>⟨by decide,(con_rc1 (R:=R) O hX (by first | omega | (simp; omega))).mono (bd hA rfl) (bd hu rfl)⟩,fun _ _ _ _=>trivial,fun z1 z2 z3 z4=>?_⟩)
  intro h' D' hN'
  exact ⟨(_,_,_,tn),rfl,aft_plain (q:=⟨_,lexO w.params X n tn R (e + 4) [] e1,[],_,_⟩) D' rfl hN' rfl⟩
theorem con_gtQ3 {N T:Nat} {X:LX} {n:Int} {tn:Tok} {R:List Value} {t21 t22 t23 t24:Tok} {e e1:Nat} (hX:codeHas (fds "code" X.cvs) qLam = true) (hR:R.length < 900) :
    CG w b 560 5600 (.call (.ref 95) ⟨[.ref X.a],[]⟩) (lexL w.params X n tn (sn (sn (sn (sn R (.str (sg [34]) t24)) (.str (sg [92]) t23)) (.str (sg [92]) t22)) (.str (sg [34]) t21)) e [] e1) N T
      (fun z:Nat × Nat × Tok × Tok=>⟨.ret (.str (sg [92]) z.2.2.1),lexO w.params X n tn R (e + 4) [] e1,[],z.1,z.2.1⟩):=by
  refine con_fn O (fn95 b w.params) (by decide) (ent95 b w.params N T (.ref X.a)) ?_
  intro A s h hz hA hu hN D hN1
  refine code_run O hz (gtQ3 b w.params _ _ X N n R tn _ t21 t22 t23 t24 e e1) D hN1 (HHx 4 ⟨⟨by decide,(con_rc1 (R:=(sn (sn (sn R (.str (sg [34]) t24)) (.str (sg [92]) t23)) (.str (sg [92]) t22))) O hX (by first | omega | (simp; omega))).mono (bd hA rfl) (bd hu rfl)⟩,fun z1=>⟨by decide,(con_rc1 (R:=(sn (sn R (.str (sg [34]) t24)) (.str (sg [92]) t23))) O hX (by first | omega | (simp; omega))).mono (bd hA rfl) (bd hu rfl)⟩,fun z1 z2=>⟨by decide,(con_rc1 (R:=(sn R (.str (sg [34]) t24))) O hX (by first | omega | (simp; omega))).mono (bd hA rfl) (bd hu rfl)⟩,fun z1 z2 z3=>⟨by decide,(con_rc1 (R:=R) O hX (by first | omega | (simp; omega))).mono (bd hA rfl) (bd hu rfl)⟩,fun _ _ _ _=>trivial,fun z1 z2 z3 z4=>?_⟩)
  intro h' D' hN'
  exact ⟨(_,_,_,tn),rfl,aft_plain (q:=⟨_,lexO w.params X n tn R (e + 4) [] e1,[],_,_⟩) D' rfl hN' rfl⟩
theorem con_gtQ4 {N T:Nat} {X:LX} {n:Int} {tn:Tok} {R:List Value} {t21 t22 t23:Tok} {e e1:Nat} (hX:codeHas (fds "code" X.cvs) qLam = true) (hR:R.length < 900) :
    CG w b 560 5600 (.call (.ref 95) ⟨[.ref X.a],[]⟩) (lexL w.params X n tn (sn (sn (sn R (.str (sg [34]) t23)) (.str (sg [97]) t22)) (.str (sg [34]) t21)) e [] e1) N T
      (fun z:Nat × Nat × Tok × Tok=>⟨.ret (.str (sg [97]) z.2.2.1),lexO w.params X n tn R (e + 3) [] e1,[],z.1,z.2.1⟩):=by
  refine con_fn O (fn95 b w.params) (by decide) (ent95 b w.params N T (.ref X.a)) ?_
  intro A s h hz hA hu hN D hN1
  refine code_run O hz (gtQ4 b w.params _ _ X N n R tn _ t21 t22 t23 e e1) D hN1 (HHx 3 ⟨⟨by decide,(con_rc1 (R:=(sn (sn R (.str (sg [34]) t23)) (.str (sg [97]) t22))) O hX (by first | omega | (simp; omega))).mono (bd hA rfl) (bd hu rfl)⟩,fun z1=>⟨by decide,(con_rc1 (R:=(sn R (.str (sg [34]) t23))) O hX (by first | omega | (simp; omega))).mono (bd hA rfl) (bd hu rfl)⟩,fun z1 z2=>⟨by decide,(con_rc1 (R:=R) O hX (by first | omega | (simp; omega))).mono (bd hA rfl) (bd hu rfl)⟩,fun _ _ _=>trivial,fun z1 z2 z3=>?_⟩)
  intro h' D' hN'
  exact ⟨(_,_,_,tn),rfl,aft_plain (q:=⟨_,lexO w.params X n tn R (e + 3) [] e1,[],_,_⟩) D' rfl hN' rfl⟩
theorem con_gtB1 {N T:Nat} {X:LX} {n:Int} {tn:Tok} {R:List Value} {t21 t22 t23:Tok} {e e1:Nat} (hX:codeHas (fds "code" X.cvs) qLam = true) (hR:R.length < 900) :
    CG w b 560 5600 (.call (.ref 95) ⟨[.ref X.a],[]⟩) (lexL w.params X n tn (sn (sn (sn R (.str (sg [32]) t23)) (.str (sg [10]) t22)) (.str (sg [92]) t21)) e [] e1) N T
      (fun z:Nat × Nat × Tok × Tok=>⟨.ret (.str (sg [10]) z.2.2.1),lexO w.params X (n + 1) z.2.2.2 R (e + 3) [] e1,[],z.1,z.2.1⟩):=by
  refine con_fn O (fn95 b w.params) (by decide) (ent95 b w.params N T (.ref X.a)) ?_
  intro A s h hz hA hu hN D hN1
  refine code_run O hz (gtB1 b w.params _ _ X N n R tn _ t21 t22 t23 e e1) D hN1 (HHx 3 ⟨⟨by decide,(con_rc1 (R:=(sn (sn R (.str (sg [32]) t23)) (.str (sg [10]) t22))) O hX (by first | omega | (simp; omega))).mono (bd hA rfl) (bd hu rfl)⟩,fun z1=>⟨by decide,(con_rc1 (R:=(sn R (.str (sg [32]) t23))) O hX (by first | omega | (simp; omega))).mono (bd hA rfl) (bd hu rfl)⟩,fun z1 z2=>⟨by decide,(con_rc1 (R:=R) O hX (by first | omega | (simp; omega))).mono (bd hA rfl) (bd hu rfl)⟩,fun _ _ _=>trivial,fun z1 z2 z3=>?_⟩)
  intro h' D' hN'
  exact ⟨(_,_,_,z2.2.2),rfl,aft_plain (q:=⟨_,lexO w.params X (n + 1) z2.2.2 R (e + 3) [] e1,[],_,_⟩) D' rfl hN' rfl⟩
theorem con_gtB2 {N T:Nat} {X:LX} {n:Int} {tn:Tok} {R:List Value} {t21 t22 t23:Tok} {e e1:Nat} (hX:codeHas (fds "code" X.cvs) qLam = true) (hR:R.length < 900) :
    CG w b 560 5600 (.call (.ref 95) ⟨[.ref X.a],[]⟩) (lexL w.params X n tn (sn (sn (sn R (.str (sg [32]) t23)) (.str (sg [34]) t22)) (.str (sg [92]) t21)) e [] e1) N T
      (fun z:Nat × Nat × Tok × Tok=>⟨.ret (.str (sg [34]) z.2.2.1),lexO w.params X n tn R (e + 3) [] e1,[],z.1,z.2.1⟩):=by
  refine con_fn O (fn95 b w.params) (by decide) (ent95 b w.params N T (.ref X.a)) ?_
  intro A s h hz hA hu hN D hN1
  refine code_run O hz (gtB2 b w.params _ _ X N n R tn _ t21 t22 t23 e e1) D hN1 (HHx 3 ⟨⟨by decide,(con_rc1 (R:=(sn (sn R (.str (sg [32]) t23)) (.str (sg [34]) t22))) O hX (by first | omega | (simp; omega))).mono (bd hA rfl) (bd hu rfl)⟩,fun z1=>⟨by decide,(con_rc1 (R:=(sn R (.str (sg [32]) t23))) O hX (by first | omega | (simp; omega))).mono (bd hA rfl) (bd hu rfl)⟩,fun z1 z2=>⟨by decide,(con_rc1 (R:=R) O hX (by first | omega | (simp; omega))).mono (bd hA rfl) (bd hu rfl)⟩,fun _ _ _=>trivial,fun z1 z2 z3=>?_⟩)
  intro h' D' hN'
  exact ⟨(_,_,_,tn),rfl,aft_plain (q:=⟨_,lexO w.params X n tn R (e + 3) [] e1,[],_,_⟩) D' rfl hN' rfl⟩
theorem con_gtB3 {N T:Nat} {X:LX} {n:Int} {tn:Tok} {R:List Value} {t21 t22 t23:Tok} {e e1:Nat} (hX:codeHas (fds "code" X.cvs) qLam = true) (hR:R.length < 900) :
    CG w b 560 5600 (.call (.ref 95) ⟨[.ref X.a],[]⟩) (lexL w.params X n tn (sn (sn (sn R (.str (sg [32]) t23)) (.str (sg [92]) t22)) (.str (sg [92]) t21)) e [] e1) N T
      (fun z:Nat × Nat × Tok × Tok=>⟨.ret (.str (sg [92]) z.2.2.1),lexO w.params X n tn R (e + 3) [] e1,[],z.1,z.2.1⟩):=by
  refine con_fn O (fn95 b w.params) (by decide) (ent95 b w.params N T (.ref X.a)) ?_
  intro A s h hz hA hu hN D hN1
  refine code_run O hz (gtB3 b w.params _ _ X N n R tn _ t21 t22 t23 e e1) D hN1 (HHx 3 ⟨⟨by decide,(con_rc1 (R:=(sn (sn R (.str (sg [32]) t23)) (.str (sg [92]) t22))) O hX (by first | omega | (simp; omega))).mono (bd hA rfl) (bd hu rfl)⟩,fun z1=>⟨by decide,(con_rc1 (R:=(sn R (.str (sg [32]) t23))) O hX (by first | omega | (simp; omega))).mono (bd hA rfl) (bd hu rfl)⟩,fun z1 z2=>⟨by decide,(con_rc1 (R:=R) O hX (by first | omega | (simp; omega))).mono (bd hA rfl) (bd hu rfl)⟩,fun _ _ _=>trivial,fun z1 z2 z3=>?_⟩)
  intro h' D' hN'
  exact ⟨(_,_,_,tn),rfl,aft_plain (q:=⟨_,lexO w.params X n tn R (e + 3) [] e1,[],_,_⟩) D' rfl hN' rfl⟩
theorem con_gtB4 {N T:Nat} {X:LX} {n:Int} {tn:Tok} {R:List Value} {t21 t22 t23:Tok} {e e1:Nat} (hX:codeHas (fds "code" X.cvs) qLam = true) (hR:R.length < 900) :
    CG w b 560 5600 (.call (.ref 95) ⟨[.ref X.a],[]⟩) (lexL w.params X n tn (sn (sn (sn R (.str (sg [32]) t23)) (.str (sg [97]) t22)) (.str (sg [92]) t21)) e [] e1) N T
      (fun z:Nat × Nat × Tok × Tok=>⟨.ret (.str (sg [97]) z.2.2.1),lexO w.params X n tn R (e + 3) [] e1,[],z.1,z.2.1⟩):=by
  refine con_fn O (fn95 b w.params) (by decide) (ent95 b w.params N T (.ref X.a)) ?_
  intro A s h hz hA hu hN D hN1
  refine code_run O hz (gtB4 b w.params _ _ X N n R tn _ t21 t22 t23 e e1) D hN1 (HHx 3 ⟨⟨by decide,(con_rc1 (R:=(sn (sn R (.str (sg [32]) t23)) (.str (sg [97]) t22))) O hX (by first | omega | (simp; omega))).mono (bd hA rfl) (bd hu rfl)⟩,fun z1=>⟨by decide,(con_rc1 (R:=(sn R (.str (sg [32]) t23))) O hX (by first | omega | (simp; omega))).mono (bd hA rfl) (bd hu rfl)⟩,fun z1 z2=>⟨by decide,(con_rc1 (R:=R) O hX (by first | omega | (simp; omega))).mono (bd hA rfl) (bd hu rfl)⟩,fun _ _ _=>trivial,fun z1 z2 z3=>?_⟩)
  intro h' D' hN'
  exact ⟨(_,_,_,tn),rfl,aft_plain (q:=⟨_,lexO w.params X n tn R (e + 3) [] e1,[],_,_⟩) D' rfl hN' rfl⟩
omit O in
theorem conLenM {d u:Nat} {l:Addr} {vs:List Value} {e N T:Nat} {m:Int} (hm:(vs.length:Int) = m) :
    CG w b d u (.builtin "list.__len__" ⟨[.ref l],[]⟩) [(l,lst vs e)] N T (fun _:Unit=>⟨.ret (.int m T),[lst vs e],[],N,T + 1⟩):=hm ▸ conLen
theorem con_gtP {N T:Nat} {X:LX} {n:Int} {tn:Tok} {S B:List Value} {x:Str} {t:Tok} {e e1:Nat} (hB:B.length < 14) :
    CG w b 560 5600 (.call (.ref 95) ⟨[.ref X.a],[]⟩) (lexL w.params X n tn S e (.str x t :: B) e1) N T
      (fun z:Nat × Nat=>⟨.ret (.str x t),lexO w.params X n tn S e B (e1 + 1),[],z.1,z.2⟩):=by
  refine con_fn O (fn95 b w.params) (by decide) (ent95 b w.params N T (.ref X.a)) ?_
  intro A s h hz hA hu hN D hN1
  have hs:sizeLine = 16777216:=by decide
  have hc:=(by decide:∀ m,m < 14 → m = 0 ∨ m = 1 ∨ m = 2 ∨ m = 3 ∨ m = 4 ∨ m = 5 ∨ m = 6 ∨ m = 7 ∨ m = 8 ∨ m = 9 ∨ m = 10 ∨ m = 11 ∨ m = 12 ∨ m = 13) B.length hB
  rcases hc with hc | hc | hc | hc | hc | hc | hc | hc | hc | hc | hc | hc | hc | hc
  · refine code_run O hz (gtP1 b w.params _ _ X N n S B x tn _ t e e1) D hN1 (HHx 2 ⟨⟨by decide,conLenM (by simp [hc])⟩,fun z1=>⟨by decide,conPop0 (by omega)⟩,fun _ _=>trivial,fun z1 z2=>?_⟩)
    intro h' D' hN'
    exact ⟨(_,_),rfl,aft_plain (q:=⟨_,lexO w.params X n tn S e B (e1 + 1),[],_,_⟩) D' rfl hN' rfl⟩
  · refine code_run O hz (gtP2 b w.params _ _ X N n S B x tn _ t e e1) D hN1 (HHx 2 ⟨⟨by decide,conLenM (by simp [hc])⟩,fun z1=>⟨by decide,conPop0 (by omega)⟩,fun _ _=>trivial,fun z1 z2=>?_⟩)
    intro h' D' hN'
    exact ⟨(_,_),rfl,aft_plain (q:=⟨_,lexO w.params X n tn S e B (e1 + 1),[],_,_⟩) D' rfl hN' rfl⟩
  · refine code_run O hz (gtP3 b w.params _ _ X N n S B x tn _ t e e1) D hN1 (HHx 2 ⟨⟨by decide,conLenM (by simp [hc])⟩,fun z1=>⟨by decide,conPop0 (by omega)⟩,fun _ _=>trivial,fun z1 z2=>?_⟩)
    intro h' D' hN'
    exact ⟨(_,_),rfl,aft_plain (q:=⟨_,lexO w.params X n tn S e B (e1 + 1),[],_,_⟩) D' rfl hN' rfl⟩
  · refine code_run O hz (gtP4 b w.params _ _ X N n S B x tn _ t e e1) D hN1 (HHx 2 ⟨⟨by decide,conLenM (by simp [hc])⟩,fun z1=>⟨by decide,conPop0 (by omega)⟩,fun _ _=>trivial,fun z1 z2=>?_⟩)
    intro h' D' hN'
    exact ⟨(_,_),rfl,aft_plain (q:=⟨_,lexO w.params X n tn S e B (e1 + 1),[],_,_⟩) D' rfl hN' rfl⟩
  · refine code_run O hz (gtP5 b w.params _ _ X N n S B x tn _ t e e1) D hN1 (HHx 2 ⟨⟨by decide,conLenM (by simp [hc])⟩,fun z1=>⟨by decide,conPop0 (by omega)⟩,fun _ _=>trivial,fun z1 z2=>?_⟩)
    intro h' D' hN'
    exact ⟨(_,_),rfl,aft_plain (q:=⟨_,lexO w.params X n tn S e B (e1 + 1),[],_,_⟩) D' rfl hN' rfl⟩
  · refine code_run O hz (gtP6 b w.params _ _ X N n S B x tn _ t e e1) D hN1 (HHx 2 ⟨⟨by decide,conLenM (by simp [hc])⟩,fun z1=>⟨by decide,conPop0 (by omega)⟩,fun _ _=>trivial,fun z1 z2=>?_⟩)
    intro h' D' hN'
    exact ⟨(_,_),rfl,aft_plain (q:=⟨_,lexO w.params X n tn S e B (e1 + 1),[],_,_⟩) D' rfl hN' rfl⟩
  · refine code_run O hz (gtP7 b w.params _ _ X N n S B x tn _ t e e1) D hN1 (HHx 2 ⟨⟨by decide,conLenM (by simp [hc])⟩,fun z1=>⟨by decide,conPop0 (by omega)⟩,fun _ _=>trivial,fun z1 z2=>?_⟩)
    intro h' D' hN'
    exact ⟨(_,_),rfl,aft_plain (q:=⟨_,lexO w.params X n tn S e B (e1 + 1),[],_,_⟩) D' rfl hN' rfl⟩
  · refine code_run O hz (gtP8 b w.params _ _ X N n S B x tn _ t e e1) D hN1 (HHx 2 ⟨⟨by decide,conLenM (by simp [hc])⟩,fun z1=>⟨by decide,conPop0 (by omega)⟩,fun _ _=>trivial,fun z1 z2=>?_⟩)
    intro h' D' hN'
    exact ⟨(_,_),rfl,aft_plain (q:=⟨_,lexO w.params X n tn S e B (e1 + 1),[],_,_⟩) D' rfl hN' rfl⟩
  · refine code_run O hz (gtP9 b w.params _ _ X N n S B x tn _ t e e1) D hN1 (HHx 2 ⟨⟨by decide,conLenM (by simp [hc])⟩,fun z1=>⟨by decide,conPop0 (by omega)⟩,fun _ _=>trivial,fun z1 z2=>?_⟩)
    intro h' D' hN'
    exact ⟨(_,_),rfl,aft_plain (q:=⟨_,lexO w.params X n tn S e B (e1 + 1),[],_,_⟩) D' rfl hN' rfl⟩
  · refine code_run O hz (gtP10 b w.params _ _ X N n S B x tn _ t e e1) D hN1 (HHx 2 ⟨⟨by decide,conLenM (by simp [hc])⟩,fun z1=>⟨by decide,conPop0 (by omega)⟩,fun _ _=>trivial,fun z1 z2=>?_⟩)
    intro h' D' hN'
    exact ⟨(_,_),rfl,aft_plain (q:=⟨_,lexO w.params X n tn S e B (e1 + 1),[],_,_⟩) D' rfl hN' rfl⟩
  · refine code_run O hz (gtP11 b w.params _ _ X N n S B x tn _ t e e1) D hN1 (HHx 2 ⟨⟨by decide,conLenM (by simp [hc])⟩,fun z1=>⟨by decide,conPop0 (by omega)⟩,fun _ _=>trivial,fun z1 z2=>?_⟩)
    intro h' D' hN'
    exact ⟨(_,_),rfl,aft_plain (q:=⟨_,lexO w.params X n tn S e B (e1 + 1),[],_,_⟩) D' rfl hN' rfl⟩
  · refine code_run O hz (gtP12 b w.params _ _ X N n S B x tn _ t e e1) D hN1 (HHx 2 ⟨⟨by decide,conLenM (by simp [hc])⟩,fun z1=>⟨by decide,conPop0 (by omega)⟩,fun _ _=>trivial,fun z1 z2=>?_⟩)
    intro h' D' hN'
    exact ⟨(_,_),rfl,aft_plain (q:=⟨_,lexO w.params X n tn S e B (e1 + 1),[],_,_⟩) D' rfl hN' rfl⟩
  · refine code_run O hz (gtP13 b w.params _ _ X N n S B x tn _ t e e1) D hN1 (HHx 2 ⟨⟨by decide,conLenM (by simp [hc])⟩,fun z1=>⟨by decide,conPop0 (by omega)⟩,fun _ _=>trivial,fun z1 z2=>?_⟩)
    intro h' D' hN'
    exact ⟨(_,_),rfl,aft_plain (q:=⟨_,lexO w.params X n tn S e B (e1 + 1),[],_,_⟩) D' rfl hN' rfl⟩
  · refine code_run O hz (gtP14 b w.params _ _ X N n S B x tn _ t e e1) D hN1 (HHx 2 ⟨⟨by decide,conLenM (by simp [hc])⟩,fun z1=>⟨by decide,conPop0 (by omega)⟩,fun _ _=>trivial,fun z1 z2=>?_⟩)
    intro h' D' hN'
    exact ⟨(_,_),rfl,aft_plain (q:=⟨_,lexO w.params X n tn S e B (e1 + 1),[],_,_⟩) D' rfl hN' rfl⟩
end
end Mine
end
section
namespace Mine
section
variable (b:Bool) (P:Params) (N T:Nat)
theorem pt (X:LX) (aF:Addr) (n:Int) (S B:List Value) (x0:Str) (tn t0 t1 t10:Tok) (e e1:Nat):Sg b P 40 [10,1,0,0,0,1,0,0,0,1,1,0,2,9,9,9,9,10,9] [0,0,1] (cd102 aF) (lexL P X n tn S e B e1++[(aF,(frm P [(J7,t0,(.ref X.a)),(J30,t1,(.str x0 t10))] 2))]) N T (.ask Unit ⟨(.builtin "list.append" ⟨[(.ref X.pb),(.str x0 t10)],[]⟩),1,3,[(X.pb,(lst B e1))],N,(T + 1)⟩ [8] (fun z1=>⟨(.ret .none),[(lst (sn B (.str x0 t10)) (e1 + 1))],[],N,(T + 1)⟩) fun z1=>.fin (.ok (.done (.ret .none))) (lexL P X n tn S e (sn B (.str x0 t10)) (e1 + 1)++[(aF,(frm P [(J7,t0,(.ref X.a)),(J30,t1,(.str x0 t10))] 2))]) N (T + 1)):=fx 1 ⟨⟨()⟩,fun z1=>trivial⟩ (by kernel_rfl)
theorem wr0t (aF:Addr) (t0 t1 t2:Tok):Sg b P 56 [1,1,1] [0,0,0,0,0,0,0,0,0,0] (cd123 aF) [(aF,(frm P [(J14,t0,(.str J10 t2)),(J25,t1,(.bool true))] 2))] N T (.fin (.ok (.done (.ret (.str (sg [34,34]) (T + 7))))) [(aF,(frm P [(J14,t0,(.str J10 t2)),(J25,t1,(.bool true))] 2))] N (T + 8)):=fx 0 trivial (by kernel_rfl)
theorem wr0f (aF:Addr) (t0 t1 t2:Tok):Sg b P 48 [1,1] [0,0,0,0,0,0,0,0] (cd123 aF) [(aF,(frm P [(J14,t0,(.str J10 t2)),(J25,t1,(.bool false))] 2))] N T (.fin (.ok (.done (.ret (.str (sg [34,34]) (T + 6))))) [(aF,(frm P [(J14,t0,(.str J10 t2)),(J25,t1,(.bool false))] 2))] N (T + 7)):=fx 0 trivial (by kernel_rfl)
theorem wr1t (aF:Addr) (t0 t1 t2:Tok):Sg b P 36 [1,1,1] [0,0,0,0,0,0] (cd123 aF) [(aF,(frm P [(J14,t0,(.str J31 t2)),(J25,t1,(.bool true))] 2))] N T (.fin (.ok (.done (.ret (.str (sg [92,10,32]) (T + 4))))) [(aF,(frm P [(J14,t0,(.str J31 t2)),(J25,t1,(.bool true))] 2))] N (T + 5)):=fx 0 trivial (by kernel_rfl)
theorem wr1f (aF:Addr) (t0 t1 t2:Tok):Sg b P 48 [1,1] [0,0,0,0,0,0,0,0] (cd123 aF) [(aF,(frm P [(J14,t0,(.str J31 t2)),(J25,t1,(.bool false))] 2))] N T (.fin (.ok (.done (.ret (.str (sg [34,10,34]) (T + 7))))) [(aF,(frm P [(J14,t0,(.str J31 t2)),(J25,t1,(.bool false))] 2))] N (T + 8)):=fx 0 trivial (by kernel_rfl)
theorem wr2t (aF:Addr) (t0 t1 t2:Tok):Sg b P 36 [1,1,1] [0,0,0,0,0,0] (cd123 aF) [(aF,(frm P [(J14,t0,(.str J15 t2)),(J25,t1,(.bool true))] 2))] N T (.fin (.ok (.done (.ret (.str (sg [92,34,32]) (T + 4))))) [(aF,(frm P [(J14,t0,(.str J15 t2)),(J25,t1,(.bool true))] 2))] N (T + 5)):=fx 0 trivial (by kernel_rfl)
theorem wr2f (aF:Addr) (t0 t1 t2:Tok):Sg b P 46 [1,1] [0,0,0,1,0,0,0,0] (cd123 aF) [(aF,(frm P [(J14,t0,(.str J15 t2)),(J25,t1,(.bool false))] 2))] N T (.ask Unit ⟨(.builtin "str.replace" ⟨[(.str J15 t2),(.str J15 (T + 3)),(.str (sg [92,34]) (T + 4))],[]⟩),1,3,[],N,(T + 5)⟩ [] (fun z1=>⟨(.ret (.str (sg [92,34]) (T + 5))),[],[],N,(T + 6)⟩) fun z1=>.fin (.ok (.done (.ret (.str (sg [34,92,34,34]) (T + 8))))) [(aF,(frm P [(J14,t0,(.str J15 t2)),(J25,t1,(.bool false))] 2))] N (T + 9)):=fx 1 ⟨⟨()⟩,fun z1=>trivial⟩ (by kernel_rfl)
theorem wr3t (aF:Addr) (t0 t1 t2:Tok):Sg b P 36 [1,1,1] [0,0,0,0,0,0] (cd123 aF) [(aF,(frm P [(J14,t0,(.str J23 t2)),(J25,t1,(.bool true))] 2))] N T (.fin (.ok (.done (.ret (.str (sg [92,92,32]) (T + 4))))) [(aF,(frm P [(J14,t0,(.str J23 t2)),(J25,t1,(.bool true))] 2))] N (T + 5)):=fx 0 trivial (by kernel_rfl)
theorem wr3f (aF:Addr) (t0 t1 t2:Tok):Sg b P 46 [1,1] [0,1,0,0,0,0,0,0] (cd123 aF) [(aF,(frm P [(J14,t0,(.str J23 t2)),(J25,t1,(.bool false))] 2))] N T (.ask Unit ⟨(.builtin "str.replace" ⟨[(.str J23 t2),(.str J23 (T + 1)),(.str (sg [92,92]) (T + 2))],[]⟩),1,3,[],N,(T + 3)⟩ [] (fun z1=>⟨(.ret (.str (sg [92,92]) (T + 3))),[],[],N,(T + 4)⟩) fun z1=>.fin (.ok (.done (.ret (.str (sg [34,92,92,34]) (T + 8))))) [(aF,(frm P [(J14,t0,(.str J23 t2)),(J25,t1,(.bool false))] 2))] N (T + 9)):=fx 1 ⟨⟨()⟩,fun z1=>trivial⟩ (by kernel_rfl)
theorem wr4t (aF:Addr) (t0 t1 t2:Tok):Sg b P 36 [1,1,1] [0,0,0,0,0,0] (cd123 aF) [(aF,(frm P [(J14,t0,(.str J21 t2)),(J25,t1,(.bool true))] 2))] N T (.fin (.ok (.done (.ret (.str (sg [92,97,32]) (T + 4))))) [(aF,(frm P [(J14,t0,(.str J21 t2)),(J25,t1,(.bool true))] 2))] N (T + 5)):=fx 0 trivial (by kernel_rfl)
theorem wr4f (aF:Addr) (t0 t1 t2:Tok):Sg b P 48 [1,1] [0,0,0,0,0,0,0,0] (cd123 aF) [(aF,(frm P [(J14,t0,(.str J21 t2)),(J25,t1,(.bool false))] 2))] N T (.fin (.ok (.done (.ret (.str (sg [34,97,34]) (T + 7))))) [(aF,(frm P [(J14,t0,(.str J21 t2)),(J25,t1,(.bool false))] 2))] N (T + 8)):=fx 0 trivial (by kernel_rfl)
end
noncomputable def bx:Nat → Str
  | 0=>sg []
  | 1=>sg [10]
  | 2=>sg [34]
  | 3=>sg [92]
  | _=>sg [97]
noncomputable def wrt:Nat → Bool → List Nat
  | 0,_=>[34,34]
  | 1,true=>[92,10,32]
  | 1,false=>[34,10,34]
  | 2,true=>[92,34,32]
  | 2,false=>[34,92,34,34]
  | 3,true=>[92,92,32]
  | 3,false=>[34,92,92,34]
  | _,true=>[92,97,32]
  | _,false=>[34,97,34]
section
open PySem.Builtin PySem.Builtin.Str
theorem plain_replace:plainId "str.replace" = true:=by decide +kernel
theorem conRepl {w:World} {C:Cf} {prog:Program} {d u:Nat} {N T:Nat} {x y z r:PySem.Str} {t k l:Tok} (h0:@Ne Nat k 0 ∧ @Ne Nat l 0 ∧ @Ne Nat k l)
    (h1:((occurrences x y 0 x.length (x.length + 1)).isEmpty || (y.length == 0 && z.length == 0)) = false) (h2:(y == z) = false) (h3:tooLong (x.length + (occurrences x y 0 x.length (x.length + 1)).length * z.length) = false)
    (h4:glued z (partsBetween x (occurrences x y 0 x.length (x.length + 1)) y.length) = r) (h5:r.length ≤ sizeLine) :
    Con prog w C d u (.builtin "str.replace" ⟨[.str x t,.str y k,.str z l],[]⟩) [] N T (fun _:Unit=>⟨.ret (.str r T),[],[],N,T + 1⟩):=by
  refine con_meets F.entry_str_replace plain_replace (gives_str_replace x y z t k l (fun _=>⟨by simp [h0.1,h0.2.1],by simp [h0.2.2],h2,h3⟩)).meets ?_
  intro A s hz hh nd hN hT
  unfold Made.spec
  rw [h1]
  simp only [Bool.false_eq_true,if_false]
  rw [h4]
  subst hN hT
  exact ⟨h5,(),rfl,aft_tok (k:=1) hh⟩
end
section
variable {w:World} {b:Bool} (O:(cfg b w.params).Ok PG w)
include O
theorem con_pt {N T:Nat} {X:LX} {n:Int} {tn:Tok} {S B:List Value} {x:Str} {t:Tok} {e e1:Nat} (hB:B.length < 1000) :
    CG w b 560 5600 (.call (.ref 102) ⟨[.ref X.a,.str x t],[]⟩) (lexL w.params X n tn S e B e1) N T
      (fun z:Nat × Nat=>⟨.ret .none,lexO w.params X n tn S e (sn B (.str x t)) (e1 + 1),[],z.1,z.2⟩):=by
  refine con_fn O (fn102 b w.params) (by decide) (ent102 b w.params N T (.ref X.a) (.str x t)) ?_
  intro A s h hz hA hu hN D hN1
  have hs:sizeLine = 16777216:=by decide
  refine code_run O hz (pt b w.params _ _ X N n S B x tn _ _ t e e1) D hN1 (HHx 1 ⟨⟨by decide,conAppend (by omega)⟩,fun _=>trivial,fun z1=>?_⟩)
  intro h' D' hN'
  exact ⟨(_,_),rfl,aft_plain (q:=⟨_,lexO w.params X n tn S e (sn B (.str x t)) (e1 + 1),[],_,_⟩) D' rfl hN' rfl⟩
theorem con_wr0t {N T:Nat} {t:Tok} :
    CG w b 560 5600 (.call (.ref 123) ⟨[.str (bx 0) t,.bool true],[]⟩) [] N T (fun z:Nat × Nat × Tok=>⟨.ret (.str (sg (wrt 0 true)) z.2.2),[],[],z.1,z.2.1⟩):=by
  refine con_fn O (fn123 b w.params) (by decide) (ent123 b w.params N T (.str (bx 0) t) (.bool true)) ?_
  intro A s h hz hA hu hN D hN1
  refine code_run O hz (wr0t b w.params _ _ N _ _ t) D hN1 ?_
  intro h' D' hN'
  exact ⟨(_,_,_),rfl,aft_plain (q:=⟨_,[],[],_,_⟩) D' rfl hN' rfl⟩
theorem con_wr0f {N T:Nat} {t:Tok} :
    CG w b 560 5600 (.call (.ref 123) ⟨[.str (bx 0) t,.bool false],[]⟩) [] N T (fun z:Nat × Nat × Tok=>⟨.ret (.str (sg (wrt 0 false)) z.2.2),[],[],z.1,z.2.1⟩):=by
  refine con_fn O (fn123 b w.params) (by decide) (ent123 b w.params N T (.str (bx 0) t) (.bool false)) ?_
  intro A s h hz hA hu hN D hN1
  refine code_run O hz (wr0f b w.params _ _ N _ _ t) D hN1 ?_
  intro h' D' hN'
  exact ⟨(_,_,_),rfl,aft_plain (q:=⟨_,[],[],_,_⟩) D' rfl hN' rfl⟩
theorem con_wr1t {N T:Nat} {t:Tok} :
    CG w b 560 5600 (.call (.ref 123) ⟨[.str (bx 1) t,.bool true],[]⟩) [] N T (fun z:Nat × Nat × Tok=>⟨.ret (.str (sg (wrt 1 true)) z.2.2),[],[],z.1,z.2.1⟩):=by
  refine con_fn O (fn123 b w.params) (by decide) (ent123 b w.params N T (.str (bx 1) t) (.bool true)) ?_
  intro A s h hz hA hu hN D hN1
  refine code_run O hz (wr1t b w.params _ _ N _ _ t) D hN1 ?_
  intro h' D' hN'
  exact ⟨(_,_,_),rfl,aft_plain (q:=⟨_,[],[],_,_⟩) D' rfl hN' rfl⟩
theorem con_wr1f {N T:Nat} {t:Tok} :
    CG w b 560 5600 (.call (.ref 123) ⟨[.str (bx 1) t,.bool false],[]⟩) [] N T (fun z:Nat × Nat × Tok=>⟨.ret (.str (sg (wrt 1 false)) z.2.2),[],[],z.1,z.2.1⟩):=by
  refine con_fn O (fn123 b w.params) (by decide) (ent123 b w.params N T (.str (bx 1) t) (.bool false)) ?_
  intro A s h hz hA hu hN D hN1
  refine code_run O hz (wr1f b w.params _ _ N _ _ t) D hN1 ?_
  intro h' D' hN'
  exact ⟨(_,_,_),rfl,aft_plain (q:=⟨_,[],[],_,_⟩) D' rfl hN' rfl⟩
theorem con_wr2t {N T:Nat} {t:Tok} :
    CG w b 560 5600 (.call (.ref 123) ⟨[.str (bx 2) t,.bool true],[]⟩) [] N T (fun z:Nat × Nat × Tok=>⟨.ret (.str (sg (wrt 2 true)) z.2.2),[],[],z.1,z.2.1⟩):=by
  refine con_fn O (fn123 b w.params) (by decide) (ent123 b w.params N T (.str (bx 2) t) (.bool true)) ?_
  intro A s h hz hA hu hN D hN1
  refine code_run O hz (wr2t b w.params _ _ N _ _ t) D hN1 ?_
  intro h' D' hN'
  exact ⟨(_,_,_),rfl,aft_plain (q:=⟨_,[],[],_,_⟩) D' rfl hN' rfl⟩
theorem con_wr2f {N T:Nat} {t:Tok} :
    CG w b 560 5600 (.call (.ref 123) ⟨[.str (bx 2) t,.bool false],[]⟩) [] N T (fun z:Nat × Nat × Tok=>⟨.ret (.str (sg (wrt 2 false)) z.2.2),[],[],z.1,z.2.1⟩):=by
  refine con_fn O (fn123 b w.params) (by decide) (ent123 b w.params N T (.str (bx 2) t) (.bool false)) ?_
  intro A s h hz hA hu hN D hN1
  refine code_run O hz (wr2f b w.params _ _ N _ _ t) D hN1 (HHx 1 ⟨⟨by decide,conRepl (by refine ⟨?_,?_,?_⟩ <;> omega) (by decide +kernel) (by decide +kernel) (by decide +kernel) (by decide +kernel) (by decide +kernel)⟩,fun _=>trivial,fun z1=>?_⟩)
  intro h' D' hN'
  exact ⟨(_,_,_),rfl,aft_plain (q:=⟨_,[],[],_,_⟩) D' rfl hN' rfl⟩
theorem con_wr3t {N T:Nat} {t:Tok} :
    CG w b 560 5600 (.call (.ref 123) ⟨[.str (bx 3) t,.bool true],[]⟩) [] N T (fun z:Nat × Nat × Tok=>⟨.ret (.str (sg (wrt 3 true)) z.2.2),[],[],z.1,z.2.1⟩):=by
  refine con_fn O (fn123 b w.params) (by decide) (ent123 b w.params N T (.str (bx 3) t) (.bool true)) ?_
  intro A s h hz hA hu hN D hN1
  refine code_run O hz (wr3t b w.params _ _ N _ _ t) D hN1 ?_
  intro h' D' hN'
  exact ⟨(_,_,_),rfl,aft_plain (q:=⟨_,[],[],_,_⟩) D' rfl hN' rfl⟩
theorem con_wr3f {N T:Nat} {t:Tok} :
    CG w b 560 5600 (.call (.ref 123) ⟨[.str (bx 3) t,.bool false],[]⟩) [] N T (fun z:Nat × Nat × Tok=>⟨.ret (.str (sg (wrt 3 false)) z.2.2),[],[],z.1,z.2.1⟩):=by
  refine con_fn O (fn123 b w.params) (by decide) (ent123 b w.params N T (.str (bx 3) t) (.bool false)) ?_
  intro A s h hz hA hu hN D hN1
  refine code_run O hz (wr3f b w.params _ _ N _ _ t) D hN1 (HHx 1 ⟨⟨by decide,conRepl (by refine ⟨?_,?_,?_⟩ <;> omega) (by decide +kernel) (by decide +kernel) (by decide +kernel) (by decide +kernel) (by decide +kernel)⟩,fun _=>trivial,fun z1=>?_⟩)
  intro h' D' hN'
  exact ⟨(_,_,_),rfl,aft_plain (q:=⟨_,[],[],_,_⟩) D' rfl hN' rfl⟩
theorem con_wr4t {N T:Nat} {t:Tok} :
    CG w b 560 5600 (.call (.ref 123) ⟨[.str (bx 4) t,.bool true],[]⟩) [] N T (fun z:Nat × Nat × Tok=>⟨.ret (.str (sg (wrt 4 true)) z.2.2),[],[],z.1,z.2.1⟩):=by
  refine con_fn O (fn123 b w.params) (by decide) (ent123 b w.params N T (.str (bx 4) t) (.bool true)) ?_
  intro A s h hz hA hu hN D hN1
  refine code_run O hz (wr4t b w.params _ _ N _ _ t) D hN1 ?_
  intro h' D' hN'
  exact ⟨(_,_,_),rfl,aft_plain (q:=⟨_,[],[],_,_⟩) D' rfl hN' rfl⟩
theorem con_wr4f {N T:Nat} {t:Tok} :
    CG w b 560 5600 (.call (.ref 123) ⟨[.str (bx 4) t,.bool false],[]⟩) [] N T (fun z:Nat × Nat × Tok=>⟨.ret (.str (sg (wrt 4 false)) z.2.2),[],[],z.1,z.2.1⟩):=by
  refine con_fn O (fn123 b w.params) (by decide) (ent123 b w.params N T (.str (bx 4) t) (.bool false)) ?_
  intro A s h hz hA hu hN D hN1
  refine code_run O hz (wr4f b w.params _ _ N _ _ t) D hN1 ?_
  intro h' D' hN'
  exact ⟨(_,_,_),rfl,aft_plain (q:=⟨_,[],[],_,_⟩) D' rfl hN' rfl⟩
theorem con_wr {N T:Nat} {t:Tok} (i:Nat) (hi:i < 5) (v:Bool) :
    CG w b 560 5600 (.call (.ref 123) ⟨[.str (bx i) t,.bool v],[]⟩) [] N T (fun z:Nat × Nat × Tok=>⟨.ret (.str (sg (wrt i v)) z.2.2),[],[],z.1,z.2.1⟩):=by
  match i,hi,v with
  | 0,_,true=>exact con_wr0t O
  | 0,_,false=>exact con_wr0f O
  | 1,_,true=>exact con_wr1t O
  | 1,_,false=>exact con_wr1f O
  | 2,_,true=>exact con_wr2t O
  | 2,_,false=>exact con_wr2f O
  | 3,_,true=>exact con_wr3t O
  | 3,_,false=>exact con_wr3f O
  | 4,_,true=>exact con_wr4t O
  | 4,_,false=>exact con_wr4f O
end
end Mine
end
section
namespace Mine
section
variable (b:Bool) (P:Params) (N T:Nat)
theorem ini (aF a d st:Addr) (t0 t1:Tok):Sg b P 123 [3,1,0,0,0,1,0,1,0,1,0,0,0,1,0,2,2,2,3,3,1,0,0,0,1,0,1,0,1,0,0,0,1,0,2,2,2,3,1,0,0,0,1,0,1,0,1,0,0,0,1,0,2,2,2,3,1,0,0,0,1,0,1,0,1,0,0,0,1,0,2,2,2] [0,0,0,0,0,0,0,0] (cd81 aF) [(a,(ins (.ref 105) (some d))),(d,(dct P [] 0)),(aF,(frm P [(J7,t0,(.ref a)),((sg [102,112]),t1,(.ref st))] 2))] N T (.fin (.ok (.done (.ret .none))) [(a,(ins (.ref 105) (some d))),(d,(dct P [(J50,(T + 2),(.int 1 T)),(J44,(T + 4),(.ref st)),(J38,(T + 7),(.str J54 (T + 5))),(J45,(T + 9),(.ref N))] 4)),(aF,(frm P [(J7,t0,(.ref a)),((sg [102,112]),t1,(.ref st))] 2)),(N,(lst [] 0))] (N + 1) (T + 10)):=fx 0 trivial (by kernel_rfl)
theorem lx1 (aF aC:Addr) (x:Str) (t0 t1:Tok):Sg b P 171 [0,0,2,4,4,4,3,3,3,4,4,4,4,4,0,1,1,1,1,0,0,0,2,2,0,1,1,1,1,0,0,0,2,11,11,11,11,11,11,20,20,20,0,2,0,0,0,0,0,0,0,0,0,0,0,0,0,0,0,0,0,0,0,0,0,0,0,0,0,0,0,0,22,0,22,0,0,0,0] [0,0,0,0,0,1,0,1,0,0,0,0,0,0,0,1] (cd116 aF aC) [(111,(tableObj ⟨[]⟩)),(aF,(frm P [(J20,t0,(.str x t1))] 1)),(aC,(cel none))] N T (.stk fun p1 w1=>.ask (SignsZ x) ⟨(.builtin "list.__init__" ⟨[(.ref N),(.str x t1)],[]⟩),1,4,[(N,(lst [] 0))],(N + 1),T⟩ [3] (fun z2=>⟨(.ret .none),[(lst z2.1.2.2.1 z2.1.2.2.2)],[],z2.1.1,z2.1.2.1⟩) fun z2=>.ask Unit ⟨(.builtin "list.reverse" ⟨[(.ref N)],[]⟩),1,3,[(N,(lst z2.1.2.2.1 z2.1.2.2.2))],z2.1.1,z2.1.2.1⟩ [3] (fun z3=>⟨(.ret .none),[(lst z2.1.2.2.1.reverse z2.1.2.2.2)],[],z2.1.1,z2.1.2.1⟩) fun z3=>.ask Unit ⟨(.call (.ref 81) ⟨[(.ref (z2.1.1 + 17)),(.ref (z2.1.1 + 6))],[]⟩),2,4,[((z2.1.1 + 17),(ins (.ref 105) (some (z2.1.1 + 16)))),((z2.1.1 + 16),(dct P [] 0))],(z2.1.1 + 18),(z2.1.2.1 + 15)⟩ [21,20] (fun z4=>⟨(.ret .none),[(ins (.ref 105) (some (z2.1.1 + 16))),(dct P [(J50,(z2.1.2.1 + 19),(.int 1 (z2.1.2.1 + 17))),(J44,(z2.1.2.1 + 21),(.ref (z2.1.1 + 6))),(J38,(z2.1.2.1 + 24),(.str J54 (z2.1.2.1 + 22))),(J45,(z2.1.2.1 + 26),(.ref (z2.1.1 + 19)))] 4)],[((z2.1.1 + 19),(lst [] 0))],(z2.1.1 + 20),(z2.1.2.1 + 27)⟩) fun z4=>.fin (.ok (.done (.ret (.ref (z2.1.1 + 17))))) [(111,(tableObj ⟨[(.int 118 0),(.int 13 0),(.ref (z2.1.1 + 5)),(.int 119 0),(.int 18 0),(.ref (z2.1.1 + 13))]⟩)),(aF,(frm P [(J20,t0,(.str x t1)),((sg [115,116,114,101,97,109]),(z2.1.2.1 + 5),(.ref (z2.1.1 + 6)))] 2)),(aC,(cel (some (.ref N)))),(N,(lst z2.1.2.2.1.reverse z2.1.2.2.2)),(z2.1.1,(tup [] 0)),((z2.1.1 + 1),(tableObj ⟨[]⟩)),((z2.1.1 + 2),(tup [] 0)),((z2.1.1 + 3),(tup [] 0)),((z2.1.1 + 4),(lamT 0)),((z2.1.1 + 5),(fds "code" [(.str J58 z2.1.2.1),(.str J39 (z2.1.2.1 + 1)),(.str J40 (z2.1.2.1 + 2)),(.int 118 0),(.int 0 0),(.int 0 0),(.int 0 0),(.int 19 0),(.ref z2.1.1),(.bool true),(.int 181 0),(.ref (z2.1.1 + 1)),.none,(.ref (z2.1.1 + 2)),(.ref (z2.1.1 + 3)),(.ref (z2.1.1 + 4)),(.int ((z2.1.2.1 + 3):Nat) 0),(.int 118 0),(.str J40 (z2.1.2.1 + 4))])),((z2.1.1 + 6),(lamF 0 [] .none (z2.1.1 + 5) (some (z2.1.1 + 15)))),((z2.1.1 + 7),(tup [(.ref aC)] 0)),((z2.1.1 + 8),(tup [(.str J37 (z2.1.2.1 + 9))] 0)),((z2.1.1 + 9),(tableObj ⟨[]⟩)),((z2.1.1 + 10),(tup [(.str J5 (z2.1.2.1 + 10))] 0)),((z2.1.1 + 11),(tup [] 0)),((z2.1.1 + 12),(lamT 1)),((z2.1.1 + 13),(fds "code" [(.str J58 (z2.1.2.1 + 6)),(.str J39 (z2.1.2.1 + 7)),(.str J40 (z2.1.2.1 + 8)),(.int 119 0),(.int 1 0),(.int 0 0),(.int 0 0),(.int 19 0),(.ref (z2.1.1 + 8)),(.bool true),(.int 181 0),(.ref (z2.1.1 + 9)),.none,(.ref (z2.1.1 + 10)),(.ref (z2.1.1 + 11)),(.ref (z2.1.1 + 12)),(.int ((z2.1.2.1 + 11):Nat) 0),(.int 119 0),(.str J40 (z2.1.2.1 + 12))])),((z2.1.1 + 14),(lamF 1 [(J37,aC)] (.ref (z2.1.1 + 7)) (z2.1.1 + 13) none)),((z2.1.1 + 15),(dct P [((sg [114,101,97,100]),(z2.1.2.1 + 14),(.ref (z2.1.1 + 14)))] 1)),((z2.1.1 + 16),(dct P [(J50,(z2.1.2.1 + 19),(.int 1 (z2.1.2.1 + 17))),(J44,(z2.1.2.1 + 21),(.ref (z2.1.1 + 6))),(J38,(z2.1.2.1 + 24),(.str J54 (z2.1.2.1 + 22))),(J45,(z2.1.2.1 + 26),(.ref (z2.1.1 + 19)))] 4)),((z2.1.1 + 17),(ins (.ref 105) (some (z2.1.1 + 16)))),((z2.1.1 + 19),(lst [] 0))] (z2.1.1 + 20) (z2.1.2.1 + 27)):=fx 3 ⟨fun p1 w1=>⟨⟨(0,0,_,0),signs_items x⟩⟩,fun p1 w1 z2=>⟨()⟩,fun p1 w1 z2 z3=>⟨()⟩,fun p1 w1 z2 z3 z4=>trivial⟩ (by kernel_rfl)
theorem lx2 (aF aC:Addr) (x:Str) (t0 t1:Tok) (c0 c1:Addr) (cv0 cv1:List Value):Sg b P 141 [0,0,4,6,6,6,5,5,5,6,6,6,6,6,0,1,0,0,0,4,4,0,1,0,0,0,4,7,7,7,7,7,7,10,10,10,0,4,0,0,0,0,0,0,0,0,0,0,0,0,0,0,0,0,0,0,0,0,0,0,0,0,0,0,0,0,12,0,12,0,0,0,0] [0,0,0,0,0,1,0,1,0,0,0,0,0,0,0,1] (cd116 aF aC) [(111,(tableObj ⟨[(.int 118 0),(.int 13 0),(.ref c0),(.int 119 0),(.int 18 0),(.ref c1)]⟩)),(c0,(fds "code" cv0)),(c1,(fds "code" cv1)),(aF,(frm P [(J20,t0,(.str x t1))] 1)),(aC,(cel none))] N T (.stk fun p1 w1=>.ask (SignsZ x) ⟨(.builtin "list.__init__" ⟨[(.ref N),(.str x t1)],[]⟩),1,4,[(N,(lst [] 0))],(N + 1),T⟩ [5] (fun z2=>⟨(.ret .none),[(lst z2.1.2.2.1 z2.1.2.2.2)],[],z2.1.1,z2.1.2.1⟩) fun z2=>.ask Unit ⟨(.builtin "list.reverse" ⟨[(.ref N)],[]⟩),1,3,[(N,(lst z2.1.2.2.1 z2.1.2.2.2))],z2.1.1,z2.1.2.1⟩ [5] (fun z3=>⟨(.ret .none),[(lst z2.1.2.2.1.reverse z2.1.2.2.2)],[],z2.1.1,z2.1.2.1⟩) fun z3=>.ask Unit ⟨(.call (.ref 81) ⟨[(.ref (z2.1.1 + 5)),(.ref z2.1.1)],[]⟩),2,4,[((z2.1.1 + 5),(ins (.ref 105) (some (z2.1.1 + 4)))),((z2.1.1 + 4),(dct P [] 0))],(z2.1.1 + 6),(z2.1.2.1 + 3)⟩ [11,10] (fun z4=>⟨(.ret .none),[(ins (.ref 105) (some (z2.1.1 + 4))),(dct P [(J50,(z2.1.2.1 + 7),(.int 1 (z2.1.2.1 + 5))),(J44,(z2.1.2.1 + 9),(.ref z2.1.1)),(J38,(z2.1.2.1 + 12),(.str J54 (z2.1.2.1 + 10))),(J45,(z2.1.2.1 + 14),(.ref (z2.1.1 + 7)))] 4)],[((z2.1.1 + 7),(lst [] 0))],(z2.1.1 + 8),(z2.1.2.1 + 15)⟩) fun z4=>.fin (.ok (.done (.ret (.ref (z2.1.1 + 5))))) [(111,(tableObj ⟨[(.int 118 0),(.int 13 0),(.ref c0),(.int 119 0),(.int 18 0),(.ref c1)]⟩)),(c0,(fds "code" cv0)),(c1,(fds "code" cv1)),(aF,(frm P [(J20,t0,(.str x t1)),((sg [115,116,114,101,97,109]),z2.1.2.1,(.ref z2.1.1))] 2)),(aC,(cel (some (.ref N)))),(N,(lst z2.1.2.2.1.reverse z2.1.2.2.2)),(z2.1.1,(lamF 0 [] .none c0 (some (z2.1.1 + 3)))),((z2.1.1 + 1),(tup [(.ref aC)] 0)),((z2.1.1 + 2),(lamF 1 [(J37,aC)] (.ref (z2.1.1 + 1)) c1 none)),((z2.1.1 + 3),(dct P [((sg [114,101,97,100]),(z2.1.2.1 + 2),(.ref (z2.1.1 + 2)))] 1)),((z2.1.1 + 4),(dct P [(J50,(z2.1.2.1 + 7),(.int 1 (z2.1.2.1 + 5))),(J44,(z2.1.2.1 + 9),(.ref z2.1.1)),(J38,(z2.1.2.1 + 12),(.str J54 (z2.1.2.1 + 10))),(J45,(z2.1.2.1 + 14),(.ref (z2.1.1 + 7)))] 4)),((z2.1.1 + 5),(ins (.ref 105) (some (z2.1.1 + 4)))),((z2.1.1 + 7),(lst [] 0))] (z2.1.1 + 8) (z2.1.2.1 + 15)):=fx 3 ⟨fun p1 w1=>⟨⟨(0,0,_,0),signs_items x⟩⟩,fun p1 w1 z2=>⟨()⟩,fun p1 w1 z2 z3=>⟨()⟩,fun p1 w1 z2 z3 z4=>trivial⟩ (by kernel_rfl)
end
section
variable {prog:Program} {w:World} {C:Cf}
theorem aft_ix {s:Shared} {rd L' rest:Led} {h':Heap} {q:Pst} (D:Rep C (rd.map (·.1)) s.heap L' h') (hL:L' = (rd.map (·.1)).zip q.wr++rest) (hsz:h'.objs.size = q.N)
    (hl:q.wr.length = rd.length) (js:List Nat) (hj:js.Nodup) (hn:q.nw = rdK js rest):Aft s ⟨h',s.gens,s.drawn,q.T,s.os⟩ rd q:=by
  have nd:=D.nodup
  have ez:((rd.map (·.1)).zip q.wr).map (·.1) = rd.map (·.1):=by
    rw [List.map_fst_zip]; simp [hl]
  rw [hL,List.map_append,ez] at nd
  obtain ⟨_,nr,dj⟩:=List.nodup_append.mp nd
  refine aft_of_rep D hL hsz (fun p hp=>?_) (by rw [hn]; exact rd_nodup nr hj)
  rw [hn] at hp
  have hp':=rdK_sub _ _ p hp
  have hm:p ∈ L':=by rw [hL]; exact List.mem_append_right _ hp'
  refine ⟨hm,(D.inS p hm).resolve_left fun h=>?_⟩
  exact dj _ h _ (List.mem_map_of_mem hp') rfl
end
noncomputable def iniD (P:Params) (N T:Nat) (st:Addr):Obj:=dct P [((sg [108,105,110,101,110,111]),(T + 4),(.int 1 (T + 2))),((sg [105,110,115,116,114,101,97,109]),(T + 6),(.ref st)),((sg [119,104,105,116,101,115,112,97,99,101]),(T + 9),(.str (sg [10,9,13,32]) (T + 7))),((sg [112,117,115,104,98,97,99,107]),(T + 11),(.ref (N + 1)))] 4
section
variable {w:World} {b:Bool} (O:(cfg b w.params).Ok PG w)
include O
theorem con_ini {N T:Nat} {a d st:Addr} :
    CG w b 560 5600 (.call (.ref 81) ⟨[.ref a,.ref st],[]⟩) [(a,ins (.ref 105) (some d)),(d,dct w.params [] 0)] N T
      (fun _:Unit=>⟨.ret .none,[ins (.ref 105) (some d),iniD w.params N T st],[(N + 1,lst [] 0)],N + 2,T + 12⟩):=by
  refine con_fn O (fn81 b w.params) (by decide) (ent81 b w.params N T (.ref a) (.ref st)) ?_
  intro A s h hz hA hu hN D hN1
  refine code_run O hz (ini b w.params _ _ N a d st _ _) D hN1 ?_
  intro h' D' hN'
  exact ⟨(),rfl,aft_ix (q:=⟨_,[ins (.ref 105) (some d),iniD w.params N T st],[(N + 1,lst [] 0)],N + 2,T + 12⟩) D' rfl hN' rfl [1] (by decide) rfl⟩
end
noncomputable def lxCv0 (M K:Nat):List Value:=[(.str (sg [60,108,97,109,98,100,97,62]) K),(.str (sg [95,108,97,119,95,108,101,120,101,114,46,60,108,111,99,97,108,115,62,46,60,108,97,109,98,100,97,62]) (K + 1)),(.str (sg [47,99,108,97,105,109,47,99,117,116,46,112,121]) (K + 2)),(.int 118 0),(.int 0 0),(.int 0 0),(.int 0 0),(.int 19 0),(.ref M),(.bool true),(.int 181 0),(.ref (M + 1)),.none,(.ref (M + 2)),(.ref (M + 3)),(.ref (M + 4)),(.int ((K + 3):Nat) 0),(.int 118 0),(.str (sg [47,99,108,97,105,109,47,99,117,116,46,112,121]) (K + 4))]
noncomputable def lxCv (M K:Nat):List Value:=[(.str (sg [60,108,97,109,98,100,97,62]) (K + 6)),(.str (sg [95,108,97,119,95,108,101,120,101,114,46,60,108,111,99,97,108,115,62,46,60,108,97,109,98,100,97,62]) (K + 7)),(.str (sg [47,99,108,97,105,109,47,99,117,116,46,112,121]) (K + 8)),(.int 119 0),(.int 1 0),(.int 0 0),(.int 0 0),(.int 19 0),(.ref (M + 8)),(.bool true),(.int 181 0),(.ref (M + 9)),.none,(.ref (M + 10)),(.ref (M + 11)),(.ref (M + 12)),(.int ((K + 11):Nat) 0),(.int 119 0),(.str (sg [47,99,108,97,105,109,47,99,117,116,46,112,121]) (K + 12))]
theorem lxCv_has (M K:Nat):codeHas (fds "code" (lxCv M K)) qLam = true:=by kernel_rfl
noncomputable def lx1X (N M K:Nat):LX:={ a:=M + 17,d:=M + 16,st:=M + 6,sd:=M + 15,cl:=N + 1,sgl:=N + 2,rf:=M + 14,cod:=M + 13,pb:=M + 19,cod0:=M + 5,ct:=.ref (M + 7),cvs:=lxCv M K,u1:=K + 19,u2:=K + 21,u3:=K + 24,u4:=K + 26,u5:=K + 14,tw:=K + 22 }
noncomputable def lx2X (c0 c1:Addr) (cv:List Value) (N M K:Nat):LX:={ a:=M + 5,d:=M + 4,st:=M,sd:=M + 3,cl:=N + 1,sgl:=N + 2,rf:=M + 2,cod:=c1,pb:=M + 7,cod0:=c0,ct:=.ref (M + 1),cvs:=cv,u1:=K + 7,u2:=K + 9,u3:=K + 12,u4:=K + 14,u5:=K + 2,tw:=K + 10 }
noncomputable def tab2 (c0 c1:Addr):Obj:=tableObj ⟨[.int 118 0,.int 13 0,.ref c0,.int 119 0,.int 18 0,.ref c1]⟩
section
variable {w:World} {b:Bool} (O:(cfg b w.params).Ok PG w)
include O
theorem con_lx1 {N T:Nat} {x:Str} {t:Tok} (hx:x.cps.size ≤ sizeLine) :
    CG w b 550 5500 (.call (.ref 116) ⟨[.str x t],[]⟩) [(111,tableObj ⟨[]⟩)] N T
      (fun z:SignsZ x=>⟨.ret (.ref (lx1X N z.1.1 z.1.2.1).a),[tab2 (z.1.1 + 5) (z.1.1 + 13)],lexL w.params (lx1X N z.1.1 z.1.2.1) 1 (z.1.2.1 + 17) z.1.2.2.1.reverse z.1.2.2.2 [] 0++[(z.1.1 + 5,fds "code" (lxCv0 z.1.1 z.1.2.1))],z.1.1 + 20,z.1.2.1 + 27⟩):=by
  refine con_fn O (fn116 b w.params) (by decide) (ent116 b w.params N T (.str x t)) ?_
  intro A s h hz hA hu hN D hN1
  refine code_run O hz (lx1 b w.params _ _ N (N + 1) x _ t) D hN1 fun p below=>HHx 3 ⟨⟨by decide,conInit hx rfl⟩,fun z2=>⟨by decide,conRev (by have:=z2.2.1; simp at this; omega)⟩,fun z2 z3=>⟨by decide,(con_ini O).mono (bd hA rfl) (bd hu rfl)⟩,fun _ _ _=>trivial,fun z2 z3 z4=>?_⟩
  intro h' D' hN'
  exact ⟨z2,rfl,aft_ix (q:=⟨_,[tab2 (z2.1.1 + 5) (z2.1.1 + 13)],lexL w.params (lx1X N z2.1.1 z2.1.2.1) 1 (z2.1.2.1 + 17) z2.1.2.2.1.reverse z2.1.2.2.2 [] 0++[(z2.1.1 + 5,fds "code" (lxCv0 z2.1.1 z2.1.2.1))],z2.1.1 + 20,z2.1.2.1 + 27⟩) D' rfl hN' rfl [20,19,9,18,1,2,17,16,21,8] (by decide) rfl⟩
theorem con_lx2 {N T:Nat} {x:Str} {t:Tok} {c0 c1:Addr} {cv0 cv1:List Value} (hx:x.cps.size ≤ sizeLine) :
    CG w b 550 5500 (.call (.ref 116) ⟨[.str x t],[]⟩) [(111,tab2 c0 c1),(c0,fds "code" cv0),(c1,fds "code" cv1)] N T
      (fun z:SignsZ x=>⟨.ret (.ref (lx2X c0 c1 cv1 N z.1.1 z.1.2.1).a),[tab2 c0 c1,fds "code" cv0,fds "code" cv1],(lexL w.params (lx2X c0 c1 cv1 N z.1.1 z.1.2.1) 1 (z.1.2.1 + 5) z.1.2.2.1.reverse z.1.2.2.2 [] 0).eraseIdx 7,z.1.1 + 8,z.1.2.1 + 15⟩):=by
  refine con_fn O (fn116 b w.params) (by decide) (ent116 b w.params N T (.str x t)) ?_
  intro A s h hz hA hu hN D hN1
  refine code_run O hz (lx2 b w.params _ _ N (N + 1) x _ t c0 c1 cv0 cv1) D hN1 fun p below=>HHx 3 ⟨⟨by decide,conInit hx rfl⟩,fun z2=>⟨by decide,conRev (by have:=z2.2.1; simp at this; omega)⟩,fun z2 z3=>⟨by decide,(con_ini O).mono (bd hA rfl) (bd hu rfl)⟩,fun _ _ _=>trivial,fun z2 z3 z4=>?_⟩
  intro h' D' hN'
  exact ⟨z2,rfl,aft_ix (q:=⟨_,[tab2 c0 c1,fds "code" cv0,fds "code" cv1],(lexL w.params (lx2X c0 c1 cv1 N z2.1.1 z2.1.2.1) 1 (z2.1.2.1 + 5) z2.1.2.2.1.reverse z2.1.2.2.2 [] 0).eraseIdx 7,z2.1.1 + 8,z2.1.2.1 + 15⟩) D' rfl hN' rfl [8,7,3,6,1,2,5,9] (by decide) rfl⟩
end
end Mine
end
section
namespace Mine
section
variable (b:Bool) (P:Params) (N T:Nat)
theorem bmE (X:LX) (bm it:Addr) (n:Int) (t0 tn:Tok) (e e1:Nat):Sg b P 7 [10] [] (.call (.ref bm) ⟨[],[]⟩) (lexL P X n tn [] e [] e1++[(bm,(fds "method" [(.ref 88),(.ref X.a)])),(it,(fds "callable_iterator" [(.ref bm),(.str J10 t0),(.bool false)]))]) N T (.fin (.ok (.again (.call (.ref 88) ⟨[(.ref X.a)],[]⟩))) (lexL P X n tn [] e [] e1++[(bm,(fds "method" [(.ref 88),(.ref X.a)])),(it,(fds "callable_iterator" [(.ref bm),(.str J10 t0),(.bool false)]))]) N T):=fx 0 trivial (by kernel_rfl)
end
theorem own_bi {prog:Program} {w:World} {A:Around} {id:String} {args:Args} {f:Builtin} {R:Result → Shared → Prop} {s:Shared} (hb:entryFor table id = some f) (x:wpOwn (model prog w) A (.builtin id args) (f args) (postC prog w A R) (postE R) s):codeAny (model prog w) A (.builtin id args) R s:=by
  refine y_code _ _ _ _ _ _ ?_
  show wpOwn _ _ _ (match entryFor table id with | some b=>b args | none=>unsupported ((withoutEnding? id "#data").getD id)) _ _ _
  rw [hb]
  exact x
theorem own_run {prog:Program} {w:World} {C:Cf} (O:C.Ok prog w) {A:Around} (hA:A.handled = none) {n:Nat} {F:Fam} {mem ctl:List Nat} {c:Code} {t:Sem PySem.Fin} {L:Led} {N T:Nat} {R:Result → Shared → Prop} {S:List Addr} {h₀ h:Heap} {g:Array GenState} {d:Drawn} {os:OsState}
    (hF:F.Fits fun os=>run C n mem ctl os c .base t L N T [] [] [] []) (D:Rep C S h₀ L h) (hN:h.objs.size = N) (H:F.Holds prog w C A ⟨postC prog w A R,postE R⟩ S h₀ g d os) :
    wpOwn (model prog w) A c t (postC prog w A R) (postE R) ⟨h,g,d,T,os⟩:=sound O hA n hF D hN H
noncomputable def ciT_m:List Nat:=[11,10,0,11,11,11,11,11,11]
theorem wpAny_callBorrowed {M:Model} {A:Around} {E:Value → Shared → Prop} {s:Shared} {f:Value} {pos:List Value} {Q:Value → Shared → Prop}
    (hc:codeAny M A (.call f ⟨pos,[]⟩) (fun r s'=>match r with | .ok (.ret v)=>Q v s' | .ok _=>False | .error e=>E e s') s) :
    wpAny M A (callBorrowed f pos) Q E s:=fun Γ p hΓ=>by
  unfold callBorrowed
  rw [Sem.wp_call]
  have:=hc _ p rfl (hΓ.enter (.call f ⟨pos,[]⟩) none p (by intro x; cases x))
  refine wpCode_mono (fun r s' h=>?_) this
  cases r with
  | ok v=>cases v <;> exact h
  | error e=>exact h
section
variable {w:World} {b:Bool} (O:(cfg b w.params).Ok PG w)
include O
omit O in
theorem entry_ci:entryFor table "callable_iterator.__next__" = some Builtin.«callable_iterator.__next__»:=entryFor_of_tree (by kernel_rfl)
theorem con_ciE {N T:Nat} {X:LX} {n:Int} {tn t0:Tok} {e e1:Nat} {it bm:Addr} (hX:codeHas (fds "code" X.cvs) qLam = true) :
    CG w b 565 5650 (.builtin "callable_iterator.__next__" ⟨[.ref it],[]⟩) (lexL w.params X n tn [] e [] e1++[(bm,fds "method" [.ref 88,.ref X.a]),(it,fds "callable_iterator" [.ref bm,.str (sg []) t0,.bool false])]) N T
      (fun z:Nat × Nat=>⟨.err (.ref (z.1 + 1)),lexO w.params X n tn [] e [] e1++[fds "method" [.ref 88,.ref X.a],fds "callable_iterator" [.none,.none,.bool true]],[(z.1,tup [] 0),(z.1 + 1,fds "StopIteration" [.ref z.1,.none,.none,.none,.bool false,.none])],z.1 + 2,z.2⟩):=by
  refine coni fun A h g dr os G hz hd hu D0 hN hG=>hG ?_
  refine own_bi entry_ci ?_
  have hit:=D0.has (it,_) (List.mem_append_right _ (.tail _ (.head _)))
  have hbm:=D0.has (bm,_) (List.mem_append_right _ (.head _))
  unfold Builtin.«callable_iterator.__next__»
  show wpOwn _ _ _ (field (.ref it) 2 >>= _) _ _ _
  refine wpOwn_bind (wpOwn_of_wpAny (wpAny_field (i:=2) (x:=.bool false) hit rfl rfl ?_))
  show wpOwn _ _ _ (field (.ref it) 0 >>= _) _ _ _
  refine wpOwn_bind (wpOwn_of_wpAny (wpAny_field (i:=0) (x:=.ref bm) hit rfl rfl ?_))
  refine wpOwn_bind (wpOwn_of_wpAny (wpAny_attempt ?_))
  unfold callOutOfASlot
  refine wpAny_bind ?_
  unfold borrowsExactly
  refine wpAny_bind (wpAny_load hbm ?_)
  show wpAny _ _ (load 88 >>= _) _ _ _
  refine wpAny_bind (wpAny_load (D0.top 88 _ rfl) ?_)
  refine wpAny_pure ?_
  refine wpAny_callBorrowed ?_
  refine code_run (A:=A.under _) O (by exact hz) (bmE b w.params _ _ X bm it n t0 tn e e1) D0 hN ?_
  intro h' D' hN' hq
  refine ⟨hq,?_⟩
  have nd':((lexL w.params X n tn [] e [] e1).map (·.1)).Nodup:=by
    have:=D'.nodup
    rw [List.map_append] at this
    exact (List.nodup_append.mp this).1
  refine codeAny_mono ((con_rc0 (n:=n) (tn:=tn) (e:=e) (B:=[]) (e1:=e1) O hX).mono (d':=565) (u':=5651) (by decide) (by decide) (A.under _) ⟨h',g,dr,T,os⟩ hz hd (Nat.add_le_add_right hu 1) D'.top (fun p hp=>D'.has p (List.mem_append_left _ hp)) nd' (fun p hp=>D'.off p (List.mem_append_left _ hp)) hN' rfl) ?_
  rintro r s' ⟨z,rfl,B⟩
  have D2:Rep (cfg b w.params) _ h (lexL w.params X n tn [] e [] e1++[(bm,fds "method" [.ref 88,.ref X.a]),(it,fds "callable_iterator" [.ref bm,.str (sg []) t0,.bool false])]) s'.heap:=
    Rep.aft (L:=lexL w.params X n tn [] e [] e1++[(bm,fds "method" [.ref 88,.ref X.a]),(it,fds "callable_iterator" [.ref bm,.str (sg []) t0,.bool false])]) (ix:=[0,1,2,3,4,5,6,7,8]) (s:=⟨h',g,dr,T,os⟩) (s':=s') (o:=⟨.ret (.str (sg []) z.2.2),lexO w.params X n tn [] e [] e1,[],z.1,z.2.1⟩) D' (L₁:=lexL w.params X n tn [] e [] e1++[(bm,fds "method" [.ref 88,.ref X.a]),(it,fds "callable_iterator" [.ref bm,.str (sg []) t0,.bool false])]) rfl B
  have hsz:=B.size
  obtain ⟨h2,rfl⟩:∃ h2:Heap,s' = ⟨h2,g,dr,z.2.1,os⟩:=⟨_,B.shape⟩
  have hit2:=D2.has (it,fds "callable_iterator" [.ref bm,.str (sg []) t0,.bool false]) (List.mem_append_right _ (.tail _ (.head _)))
  show wpOwn _ _ _ (field (.ref it) 2 >>= _) _ _ _
  refine wpOwn_bind (wpOwn_of_wpAny (wpAny_field (i:=2) (x:=.bool false) hit2 rfl rfl ?_))
  show wpOwn _ _ _ (field (.ref it) 1 >>= _) _ _ _
  refine wpOwn_bind (wpOwn_of_wpAny (wpAny_field (i:=1) (x:=.str (sg []) t0) hit2 rfl rfl ?_))
  refine wpOwn_bind (wpOwn_of_wpAny (wpAny_holding (PyProof.Rows.eqBool_str ?_)))
  refine own_run (n:=40) (F:=.fin (.error (.ref (z.1 + 1))) (lexL w.params X n tn [] e [] e1++[(bm,(fds "method" [(.ref 88),(.ref X.a)])),(it,(fds "callable_iterator" [.none,.none,(.bool true)])),(z.1,(tup [] 0)),((z.1 + 1),(fds "StopIteration" [(.ref z.1),.none,.none,.none,(.bool false),.none]))]) (z.1 + 2) z.2.1) (mem:=ciT_m) (ctl:=[0,0]) O hz ?hF D2 hsz ?_
  case hF=>exact ⟨exps (lexAs X++[bm,it,z.1,z.1 + 1]) ciT_m [],[],by kernel_rfl⟩
  intro h3 D3 hN3
  have hg:h.objs.size ≤ z.1:=by
    have:=D2.grow
    rw [show h2.objs.size = z.1 from hsz] at this
    exact this
  have hnw:∀ p ∈ [((z.1:Addr),tup [] 0),(z.1 + 1,fds "StopIteration" [.ref z.1,.none,.none,.none,.bool false,.none])],p ∈ (lexL w.params X n tn [] e [] e1++[(bm,(fds "method" [(.ref 88),(.ref X.a)])),(it,(fds "callable_iterator" [.none,.none,(.bool true)])),(z.1,(tup [] 0)),((z.1 + 1),(fds "StopIteration" [(.ref z.1),.none,.none,.none,(.bool false),.none]))]) ∧ h.objs.size ≤ p.1:=by
    intro p hp
    rcases List.mem_cons.mp hp with q | q
    · rw [q]; exact ⟨List.mem_append_right _ (.tail _ (.tail _ (.head _))),hg⟩
    · have q:=List.mem_singleton.mp q
      rw [q]; exact ⟨List.mem_append_right _ (.tail _ (.tail _ (.tail _ (.head _)))),Nat.le_succ_of_le hg⟩
  exact ⟨(z.1,z.2.1),rfl,aft_of_rep (q:=⟨_,lexO w.params X n tn [] e [] e1++[fds "method" [.ref 88,.ref X.a],fds "callable_iterator" [.none,.none,.bool true]],[(z.1,tup [] 0),(z.1 + 1,fds "StopIteration" [.ref z.1,.none,.none,.none,.bool false,.none])],z.1 + 2,z.2.1⟩) D3 rfl hN3 hnw (by simp)⟩
end
end Mine
end
section
namespace Mine
section
variable (b:Bool) (P:Params) (N T:Nat)
theorem gtE (X:LX) (aF:Addr) (n:Int) (tn t0:Tok) (e e1:Nat):Sg b P 124 [10,1,0,0,0,1,0,0,0,1,1,0,2,9,9,9,9,9,10,10,0,0,10,1,0,0,0,1,0,0,0,0,0,0,1,1,0,2,0,0,0,0,11,10,10,10,12,12,12,12,12,12,14,10] [0,0,0,0,0,0,0,0,0,0,0,0,0,1,0] (cd95 aF) (lexL P X n tn [] e [] e1++[(aF,(frm P [(J7,t0,(.ref X.a))] 1))]) N T (.ask (Nat × Nat) ⟨(.builtin "callable_iterator.__next__" ⟨[(.ref (N + 1))],[]⟩),1,3,(lexL P X n tn [] e [] e1++[(N,(fds "method" [(.ref 88),(.ref X.a)])),((N + 1),(fds "callable_iterator" [(.ref N),(.str J10 (T + 6)),(.bool false)]))]),(N + 2),(T + 8)⟩ [0,1,2,3,4,5,6,7,8,10,11] (fun z1=>⟨(.err (.ref (z1.1 + 1))),(lexO P X n tn [] e [] e1++[(fds "method" [(.ref 88),(.ref X.a)]),(fds "callable_iterator" [.none,.none,(.bool true)])]),[(z1.1,(tup [] 0)),((z1.1 + 1),(fds "StopIteration" [(.ref z1.1),.none,.none,.none,(.bool false),.none]))],(z1.1 + 2),z1.2⟩) fun z1=>.fin (.ok (.done (.ret (.str J10 (T + 3))))) (lexL P X n tn [] e [] e1++[(aF,(frm P [(J7,t0,(.ref X.a)),(J30,(T + 4),(.str J10 (T + 3))),(J34,(T + 7),(.ref (N + 1)))] 3)),(N,(fds "method" [(.ref 88),(.ref X.a)])),((N + 1),(fds "callable_iterator" [.none,.none,(.bool true)])),(z1.1,(tup [] 0)),((z1.1 + 1),(fds "StopIteration" [(.ref z1.1),.none,.none,.none,(.bool false),.none]))]) (z1.1 + 2) z1.2):=fx 1 ⟨⟨(0,0)⟩,fun z1=>trivial⟩ (by kernel_rfl)
end
section
variable {w:World} {b:Bool} (O:(cfg b w.params).Ok PG w)
include O
theorem con_gtE {N T:Nat} {X:LX} {n:Int} {tn:Tok} {e e1:Nat} (hX:codeHas (fds "code" X.cvs) qLam = true) :
    CG w b 560 5600 (.call (.ref 95) ⟨[.ref X.a],[]⟩) (lexL w.params X n tn [] e [] e1) N T
      (fun z:Nat × Nat × Tok=>⟨.ret (.str (sg []) z.2.2),lexO w.params X n tn [] e [] e1,[],z.1,z.2.1⟩):=by
  refine con_fn O (fn95 b w.params) (by decide) (ent95 b w.params N T (.ref X.a)) ?_
  intro A s h hz hA hu hN D hN1
  refine code_run O hz (gtE b w.params _ _ X N n tn _ e e1) D hN1 (HHx 1 ⟨⟨by decide,(con_ciE O hX).mono (bd hA rfl) (bd hu rfl)⟩,fun _=>trivial,fun z1=>?_⟩)
  intro h' D' hN'
  exact ⟨(_,_,_),rfl,aft_plain (q:=⟨_,lexO w.params X n tn [] e [] e1,[],_,_⟩) D' rfl hN' rfl⟩
end
end Mine
end
section
namespace Mine
noncomputable def flE (st:Stmt) (k:Nat):Expr × List Stmt:=match (bodyOf st)[k]? with
  | some (.For t _ b _ _)=>(t,b)
  | _=>(default,[])
noncomputable def flA130 (aF it:Addr):Code:=.forLoop (flE st130 3).1 (.ref it) (flE st130 3).2 [] (env130 aF)
noncomputable def flB130 (aF it:Addr):Code:=.forLoop (flE st130 4).1 (.ref it) (flE st130 4).2 [] (env130 aF)
noncomputable def flA137 (aF it:Addr):Code:=.forLoop (flE st137 3).1 (.ref it) (flE st137 3).2 [] (env137 aF)
noncomputable def flB137 (aF it:Addr):Code:=.forLoop (flE st137 4).1 (.ref it) (flE st137 4).2 [] (env137 aF)
noncomputable def bl130 (aF:Addr):Code:=.block [] (env130 aF)
noncomputable def bl137 (aF:Addr):Code:=.block [] (env137 aF)
structure LZ where
  N:Nat
  T:Nat
  n:Int
  tn:Tok
  S:List Value
  e:Nat
  B:List Value
  e1:Nat
  x:Str
  t:Tok
end Mine
end
section
namespace Mine
section
variable (b:Bool) (P:Params) (N T:Nat)
theorem h1s (G:LZ → Prop) (g0:{z:LZ // G z}) (X:LX) (aF it l lb lw:Addr) (n i sz m f j pl:Int) (S B bs:List Value) (x0 x1 x2 x3 x4:Str) (tn t0 t1 t2 t3 t4 t5 t6 t7 t8 t9 t10 t11 t12 t13 t14 t15 t16 t17 t18 t21 t22:Tok) (e e1 e2 ec:Nat):Sg b P 259 [11,11,10,10,10,1,0,0,0,1,0,0,0,1,0,0,0,0,1,2,0,10,10,10,10,0,0,10,12,12,12,10,12,12,12,12,12,10,10,14,14,14,14,0,10,0,14,14,14,14,0,0,10,12,12,12,0,0,10,12,12,12,10,13,13,13,13,10,14,14,14,14,14,14,14,14,14,13,0,10,10,0,10,14,14,14,15,15,15,15,15,14,15,15,17] [0,1,1,0,0,0,0,0,0,0,0,0,0,1,1,0,0,0,0,0,0,0,0,0,0,0,0,0,0,0,0,0,0,1,1,0,0,0,0,0,0] (flA130 aF it) (lexL P X n tn S e B e1++[(aF,(frm P [(J8,t0,(.ref X.a)),(J5,t1,(.int sz t21)),(J0,t2,(.int 1 t22)),(J4,t3,(.ref l)),(J6,t4,(.ref lb)),(J1,t5,(.int f t15))] 6)),(it,(RI [(.int i 0),(.int m 0),(.int 1 0)])),(l,(lst [(.str x0 t10)] ec)),(lb,(lst bs e2))]) N T (.ask Unit ⟨(.builtin "range_iterator.__next__" ⟨[(.ref it)],[]⟩),0,0,[(it,(RI [(.int i 0),(.int m 0),(.int 1 0)]))],N,T⟩ [10] (fun z1=>⟨(.ret (.int i T)),[(RI [(.int (i + 1) 0),(.int (m - 1) 0),(.int 1 0)])],[],N,(T + 1)⟩) fun z1=>.ask {z:LZ // G z} ⟨(.call (.ref 95) ⟨[(.ref X.a)],[]⟩),0,0,(lexL P X n tn S e B e1),N,(T + 2)⟩ [0,1,2,3,4,5,6,7,8] (fun z2=>⟨(.ret (.str z2.1.x z2.1.t)),(lexO P X z2.1.n z2.1.tn z2.1.S z2.1.e z2.1.B z2.1.e1),[],z2.1.N,z2.1.T⟩) fun z2=>.ask Unit ⟨(.builtin "str.__le__" ⟨[(.str x0 t10),(.str z2.1.x z2.1.t)],[]⟩),0,0,[],(z2.1.N + 1),(z2.1.T + 6)⟩ [] (fun z3=>⟨(.ret (.bool true)),[],[],(z2.1.N + 1),(z2.1.T + 6)⟩) fun z3=>.ask (Nat × Nat) ⟨(.call (.ref 28) ⟨[(.ref l)],[]⟩),0,0,[(l,(lst [(.str x0 t10)] ec))],(z2.1.N + 1),(z2.1.T + 6)⟩ [11] (fun z4=>⟨(.ret (.str x0 t10)),[(lst [] (ec + 1))],[],z4.1,z4.2⟩) fun z4=>.ask Unit ⟨(.builtin "list.append" ⟨[(.ref lb),(.str x0 t10)],[]⟩),0,0,[(lb,(lst bs e2))],z4.1,(z4.2 + 7)⟩ [12] (fun z5=>⟨(.ret .none),[(lst (sn bs (.str x0 t10)) (e2 + 1))],[],z4.1,(z4.2 + 7)⟩) fun z5=>.ask (Nat × Nat) ⟨(.call (.ref 21) ⟨[(.ref l),(.str z2.1.x z2.1.t)],[]⟩),0,0,[(l,(lst [] (ec + 1)))],z4.1,(z4.2 + 7)⟩ [11] (fun z6=>⟨(.ret .none),[(lst [(.str z2.1.x z2.1.t)] (ec + 2))],[],z6.1,z6.2⟩) fun z6=>.fin (.ok (.again (flA130 aF it))) (lexL P X z2.1.n z2.1.tn z2.1.S z2.1.e z2.1.B z2.1.e1++[(aF,(frm P [(J8,t0,(.ref X.a)),(J5,t1,(.int sz t21)),(J0,t2,(.int 1 t22)),(J4,t3,(.ref l)),(J6,t4,(.ref lb)),(J1,t5,(.int f t15)),(J12,(T + 1),(.int i T)),(J2,z2.1.T,(.str z2.1.x z2.1.t)),(J28,(z2.1.T + 1),(.ref z2.1.N))] 9)),(it,(RI [(.int (i + 1) 0),(.int (m - 1) 0),(.int 1 0)])),(l,(lst [(.str z2.1.x z2.1.t)] (ec + 2))),(lb,(lst (sn bs (.str x0 t10)) (e2 + 1))),(z2.1.N,(lst [] 2)),(z6.1,(LI [.none,(.int 0 0)])),((z6.1 + 1),(tup [] 0)),((z6.1 + 2),(fds "StopIteration" [(.ref (z6.1 + 1)),.none,.none,.none,(.bool false),.none]))]) (z6.1 + 3) z6.2):=fx 6 ⟨⟨()⟩,fun z1=>⟨g0⟩,fun z1 z2=>⟨()⟩,fun z1 z2 z3=>⟨(0,0)⟩,fun z1 z2 z3 z4=>⟨()⟩,fun z1 z2 z3 z4 z5=>⟨(0,0)⟩,fun z1 z2 z3 z4 z5 z6=>trivial⟩ (by kernel_rfl)
theorem h1a (G:LZ → Prop) (g0:{z:LZ // G z}) (X:LX) (aF it l lb lw:Addr) (n i sz m f j pl:Int) (S B bs:List Value) (x0 x1 x2 x3 x4:Str) (tn t0 t1 t2 t3 t4 t5 t6 t7 t8 t9 t10 t11 t12 t13 t14 t15 t16 t17 t18 t21 t22:Tok) (e e1 e2 ec:Nat):Sg b P 259 [11,11,10,10,10,1,0,0,0,1,0,0,0,1,0,0,0,0,1,2,0,10,10,10,10,0,0,10,12,12,12,10,12,12,12,12,12,10,10,14,14,14,14,0,10,0,14,14,14,14,0,0,10,12,12,12,0,0,10,12,12,12,10,13,13,13,13,10,14,14,14,14,14,14,14,14,14,13,0,10,10,0,10,14,14,14,15,15,15,15,15,14,15,15,17] [0,1,1,0,0,0,0,0,0,0,0,0,0,1,1,0,0,0,0,0,0,0,0,0,0,0,0,0,0,0,0,0,0,1,1,0,0,0,0,0,0] (flA130 aF it) (lexL P X n tn S e B e1++[(aF,(frm P [(J8,t0,(.ref X.a)),(J5,t1,(.int sz t21)),(J0,t2,(.int 1 t22)),(J4,t3,(.ref l)),(J6,t4,(.ref lb)),(J1,t5,(.int f t15)),(J12,t6,(.int j t16)),(J2,t7,(.str x3 t17)),(J28,t8,(.ref lw))] 9)),(it,(RI [(.int i 0),(.int m 0),(.int 1 0)])),(l,(lst [(.str x0 t10)] ec)),(lb,(lst bs e2))]) N T (.ask Unit ⟨(.builtin "range_iterator.__next__" ⟨[(.ref it)],[]⟩),0,0,[(it,(RI [(.int i 0),(.int m 0),(.int 1 0)]))],N,T⟩ [10] (fun z1=>⟨(.ret (.int i T)),[(RI [(.int (i + 1) 0),(.int (m - 1) 0),(.int 1 0)])],[],N,(T + 1)⟩) fun z1=>.ask {z:LZ // G z} ⟨(.call (.ref 95) ⟨[(.ref X.a)],[]⟩),0,0,(lexL P X n tn S e B e1),N,(T + 2)⟩ [0,1,2,3,4,5,6,7,8] (fun z2=>⟨(.ret (.str z2.1.x z2.1.t)),(lexO P X z2.1.n z2.1.tn z2.1.S z2.1.e z2.1.B z2.1.e1),[],z2.1.N,z2.1.T⟩) fun z2=>.ask Unit ⟨(.builtin "str.__le__" ⟨[(.str x0 t10),(.str z2.1.x z2.1.t)],[]⟩),0,0,[],(z2.1.N + 1),(z2.1.T + 6)⟩ [] (fun z3=>⟨(.ret (.bool true)),[],[],(z2.1.N + 1),(z2.1.T + 6)⟩) fun z3=>.ask (Nat × Nat) ⟨(.call (.ref 28) ⟨[(.ref l)],[]⟩),0,0,[(l,(lst [(.str x0 t10)] ec))],(z2.1.N + 1),(z2.1.T + 6)⟩ [11] (fun z4=>⟨(.ret (.str x0 t10)),[(lst [] (ec + 1))],[],z4.1,z4.2⟩) fun z4=>.ask Unit ⟨(.builtin "list.append" ⟨[(.ref lb),(.str x0 t10)],[]⟩),0,0,[(lb,(lst bs e2))],z4.1,(z4.2 + 7)⟩ [12] (fun z5=>⟨(.ret .none),[(lst (sn bs (.str x0 t10)) (e2 + 1))],[],z4.1,(z4.2 + 7)⟩) fun z5=>.ask (Nat × Nat) ⟨(.call (.ref 21) ⟨[(.ref l),(.str z2.1.x z2.1.t)],[]⟩),0,0,[(l,(lst [] (ec + 1)))],z4.1,(z4.2 + 7)⟩ [11] (fun z6=>⟨(.ret .none),[(lst [(.str z2.1.x z2.1.t)] (ec + 2))],[],z6.1,z6.2⟩) fun z6=>.fin (.ok (.again (flA130 aF it))) (lexL P X z2.1.n z2.1.tn z2.1.S z2.1.e z2.1.B z2.1.e1++[(aF,(frm P [(J8,t0,(.ref X.a)),(J5,t1,(.int sz t21)),(J0,t2,(.int 1 t22)),(J4,t3,(.ref l)),(J6,t4,(.ref lb)),(J1,t5,(.int f t15)),(J12,t6,(.int i T)),(J2,t7,(.str z2.1.x z2.1.t)),(J28,t8,(.ref z2.1.N))] 9)),(it,(RI [(.int (i + 1) 0),(.int (m - 1) 0),(.int 1 0)])),(l,(lst [(.str z2.1.x z2.1.t)] (ec + 2))),(lb,(lst (sn bs (.str x0 t10)) (e2 + 1))),(z2.1.N,(lst [] 2)),(z6.1,(LI [.none,(.int 0 0)])),((z6.1 + 1),(tup [] 0)),((z6.1 + 2),(fds "StopIteration" [(.ref (z6.1 + 1)),.none,.none,.none,(.bool false),.none]))]) (z6.1 + 3) z6.2):=fx 6 ⟨⟨()⟩,fun z1=>⟨g0⟩,fun z1 z2=>⟨()⟩,fun z1 z2 z3=>⟨(0,0)⟩,fun z1 z2 z3 z4=>⟨()⟩,fun z1 z2 z3 z4 z5=>⟨(0,0)⟩,fun z1 z2 z3 z4 z5 z6=>trivial⟩ (by kernel_rfl)
theorem h1b (G:LZ → Prop) (g0:{z:LZ // G z}) (X:LX) (aF it l lb lw:Addr) (n i sz m f j pl:Int) (S B bs:List Value) (x0 x1 x2 x3 x4:Str) (tn t0 t1 t2 t3 t4 t5 t6 t7 t8 t9 t10 t11 t12 t13 t14 t15 t16 t17 t18 t21 t22:Tok) (e e1 e2 ec:Nat):Sg b P 202 [11,11,10,10,10,1,0,0,0,1,0,0,0,1,0,0,0,0,1,2,0,10,10,10,10,0,0,10,12,12,12,10,12,12,12,12,12,10,0,0,10,12,12,12,10,10,10,10,13,13,13,13,0,10,10,0,13,10,14,14,14,15,15,15,15,15,14,15,15,17] [0,1,1,0,0,0,0,0,0,0,0,0,0,1,0,0,0,0,0,0,0,0,1,0,1,0,0,0,0,0,0] (flA130 aF it) (lexL P X n tn S e B e1++[(aF,(frm P [(J8,t0,(.ref X.a)),(J5,t1,(.int sz t21)),(J0,t2,(.int 1 t22)),(J4,t3,(.ref l)),(J6,t4,(.ref lb)),(J1,t5,(.int f t15)),(J12,t6,(.int j t16)),(J2,t7,(.str x3 t17)),(J28,t8,(.ref lw))] 9)),(it,(RI [(.int i 0),(.int m 0),(.int 1 0)])),(l,(lst [(.str x0 t10)] ec)),(lb,(lst bs e2))]) N T (.ask Unit ⟨(.builtin "range_iterator.__next__" ⟨[(.ref it)],[]⟩),0,0,[(it,(RI [(.int i 0),(.int m 0),(.int 1 0)]))],N,T⟩ [10] (fun z1=>⟨(.ret (.int i T)),[(RI [(.int (i + 1) 0),(.int (m - 1) 0),(.int 1 0)])],[],N,(T + 1)⟩) fun z1=>.ask {z:LZ // G z} ⟨(.call (.ref 95) ⟨[(.ref X.a)],[]⟩),0,0,(lexL P X n tn S e B e1),N,(T + 2)⟩ [0,1,2,3,4,5,6,7,8] (fun z2=>⟨(.ret (.str z2.1.x z2.1.t)),(lexO P X z2.1.n z2.1.tn z2.1.S z2.1.e z2.1.B z2.1.e1),[],z2.1.N,z2.1.T⟩) fun z2=>.ask Unit ⟨(.builtin "str.__le__" ⟨[(.str x0 t10),(.str z2.1.x z2.1.t)],[]⟩),0,0,[],(z2.1.N + 1),(z2.1.T + 6)⟩ [] (fun z3=>⟨(.ret (.bool false)),[],[],(z2.1.N + 1),(z2.1.T + 6)⟩) fun z3=>.ask (Nat × Nat) ⟨(.call (.ref 35) ⟨[(.ref l),(.str z2.1.x z2.1.t)],[]⟩),0,0,[(l,(lst [(.str x0 t10)] ec))],(z2.1.N + 1),(z2.1.T + 12)⟩ [11] (fun z4=>⟨(.ret (.str x0 t10)),[(lst [(.str z2.1.x z2.1.t)] ec)],[],z4.1,z4.2⟩) fun z4=>.ask Unit ⟨(.builtin "list.append" ⟨[(.ref lb),(.str x0 t10)],[]⟩),0,0,[(lb,(lst bs e2))],z4.1,z4.2⟩ [12] (fun z5=>⟨(.ret .none),[(lst (sn bs (.str x0 t10)) (e2 + 1))],[],z4.1,z4.2⟩) fun z5=>.fin (.ok (.again (flA130 aF it))) (lexL P X z2.1.n z2.1.tn z2.1.S z2.1.e z2.1.B z2.1.e1++[(aF,(frm P [(J8,t0,(.ref X.a)),(J5,t1,(.int sz t21)),(J0,t2,(.int 1 t22)),(J4,t3,(.ref l)),(J6,t4,(.ref lb)),(J1,t5,(.int (f + 1) (z2.1.T + 10))),(J12,t6,(.int i T)),(J2,t7,(.str z2.1.x z2.1.t)),(J28,t8,(.ref z2.1.N))] 9)),(it,(RI [(.int (i + 1) 0),(.int (m - 1) 0),(.int 1 0)])),(l,(lst [(.str z2.1.x z2.1.t)] ec)),(lb,(lst (sn bs (.str x0 t10)) (e2 + 1))),(z2.1.N,(lst [] 0)),(z4.1,(LI [.none,(.int 0 0)])),((z4.1 + 1),(tup [] 0)),((z4.1 + 2),(fds "StopIteration" [(.ref (z4.1 + 1)),.none,.none,.none,(.bool false),.none]))]) (z4.1 + 3) z4.2):=fx 5 ⟨⟨()⟩,fun z1=>⟨g0⟩,fun z1 z2=>⟨()⟩,fun z1 z2 z3=>⟨(0,0)⟩,fun z1 z2 z3 z4=>⟨()⟩,fun z1 z2 z3 z4 z5=>trivial⟩ (by kernel_rfl)
theorem h2s (G:LZ → Prop) (g0:{z:LZ // G z}) (X:LX) (aF it l lb lw:Addr) (n i sz m f j pl:Int) (S B bs:List Value) (x0 x1 x2 x3 x4:Str) (tn t0 t1 t2 t3 t4 t5 t6 t7 t8 t9 t10 t11 t12 t13 t14 t15 t16 t17 t18 t21 t22:Tok) (e e1 e2 ec:Nat):Sg b P 359 [11,11,10,10,10,1,0,0,0,1,0,0,0,1,0,0,0,0,1,2,0,10,10,10,10,0,0,10,12,12,12,10,12,12,12,12,12,10,10,14,14,14,14,0,10,0,14,14,14,14,0,0,10,12,12,12,10,12,12,12,12,12,10,10,14,14,14,14,0,10,0,14,14,14,14,0,0,10,12,12,12,0,0,10,12,12,12,10,13,13,13,13,10,14,14,14,14,14,14,14,14,14,13,0,10,10,0,10,14,14,14,15,15,15,15,15,14,15,15,10,10,0,10,10,0,15,15,15,15,14,15,15,17] [0,1,1,0,0,0,0,0,0,0,0,0,0,1,1,0,0,0,0,0,0,0,0,0,0,0,0,1,1,0,0,0,0,0,0,0,0,0,0,0,0,0,0,0,0,0,0,1,1,0,0,0,0,0,1,0,0,0,0] (flA130 aF it) (lexL P X n tn S e B e1++[(aF,(frm P [(J8,t0,(.ref X.a)),(J5,t1,(.int sz t21)),(J0,t2,(.int 2 t22)),(J4,t3,(.ref l)),(J6,t4,(.ref lb)),(J1,t5,(.int f t15))] 6)),(it,(RI [(.int i 0),(.int m 0),(.int 1 0)])),(l,(lst [(.str x0 t10),(.str x1 t11)] ec)),(lb,(lst bs e2))]) N T (.ask Unit ⟨(.builtin "range_iterator.__next__" ⟨[(.ref it)],[]⟩),0,0,[(it,(RI [(.int i 0),(.int m 0),(.int 1 0)]))],N,T⟩ [10] (fun z1=>⟨(.ret (.int i T)),[(RI [(.int (i + 1) 0),(.int (m - 1) 0),(.int 1 0)])],[],N,(T + 1)⟩) fun z1=>.ask {z:LZ // G z} ⟨(.call (.ref 95) ⟨[(.ref X.a)],[]⟩),0,0,(lexL P X n tn S e B e1),N,(T + 2)⟩ [0,1,2,3,4,5,6,7,8] (fun z2=>⟨(.ret (.str z2.1.x z2.1.t)),(lexO P X z2.1.n z2.1.tn z2.1.S z2.1.e z2.1.B z2.1.e1),[],z2.1.N,z2.1.T⟩) fun z2=>.ask Unit ⟨(.builtin "str.__le__" ⟨[(.str x0 t10),(.str z2.1.x z2.1.t)],[]⟩),0,0,[],(z2.1.N + 1),(z2.1.T + 6)⟩ [] (fun z3=>⟨(.ret (.bool true)),[],[],(z2.1.N + 1),(z2.1.T + 6)⟩) fun z3=>.ask (Nat × Nat) ⟨(.call (.ref 28) ⟨[(.ref l)],[]⟩),0,0,[(l,(lst [(.str x0 t10),(.str x1 t11)] ec))],(z2.1.N + 1),(z2.1.T + 6)⟩ [11] (fun z4=>⟨(.ret (.str x0 t10)),[(lst [(.str x1 t11)] (ec + 1))],[],z4.1,z4.2⟩) fun z4=>.ask Unit ⟨(.builtin "str.__le__" ⟨[(.str x1 t11),(.str z2.1.x z2.1.t)],[]⟩),0,0,[],z4.1,(z4.2 + 4)⟩ [] (fun z5=>⟨(.ret (.bool true)),[],[],z4.1,(z4.2 + 4)⟩) fun z5=>.ask (Nat × Nat) ⟨(.call (.ref 28) ⟨[(.ref l)],[]⟩),0,0,[(l,(lst [(.str x1 t11)] (ec + 1)))],z4.1,(z4.2 + 4)⟩ [11] (fun z6=>⟨(.ret (.str x1 t11)),[(lst [] (ec + 2))],[],z6.1,z6.2⟩) fun z6=>.ask Unit ⟨(.builtin "list.append" ⟨[(.ref lb),(.str x0 t10)],[]⟩),0,0,[(lb,(lst bs e2))],z6.1,(z6.2 + 7)⟩ [12] (fun z7=>⟨(.ret .none),[(lst (sn bs (.str x0 t10)) (e2 + 1))],[],z6.1,(z6.2 + 7)⟩) fun z7=>.ask (Nat × Nat) ⟨(.call (.ref 21) ⟨[(.ref l),(.str z2.1.x z2.1.t)],[]⟩),0,0,[(l,(lst [] (ec + 2)))],z6.1,(z6.2 + 7)⟩ [11] (fun z8=>⟨(.ret .none),[(lst [(.str z2.1.x z2.1.t)] (ec + 3))],[],z8.1,z8.2⟩) fun z8=>.ask (Nat × Nat) ⟨(.call (.ref 21) ⟨[(.ref l),(.str x1 t11)],[]⟩),0,0,[(l,(lst [(.str z2.1.x z2.1.t)] (ec + 3)))],(z8.1 + 1),(z8.2 + 1)⟩ [11] (fun z9=>⟨(.ret .none),[(lst (if sLt x1 z2.1.x then [.str x1 t11,.str z2.1.x z2.1.t] else [.str z2.1.x z2.1.t,.str x1 t11]) (ec + 4))],[],z9.1,z9.2⟩) fun z9=>.fin (.ok (.again (flA130 aF it))) (lexL P X z2.1.n z2.1.tn z2.1.S z2.1.e z2.1.B z2.1.e1++[(aF,(frm P [(J8,t0,(.ref X.a)),(J5,t1,(.int sz t21)),(J0,t2,(.int 2 t22)),(J4,t3,(.ref l)),(J6,t4,(.ref lb)),(J1,t5,(.int f t15)),(J12,(T + 1),(.int i T)),(J2,z2.1.T,(.str z2.1.x z2.1.t)),(J28,(z2.1.T + 1),(.ref z2.1.N)),(J14,z8.2,(.str x1 t11))] 10)),(it,(RI [(.int (i + 1) 0),(.int (m - 1) 0),(.int 1 0)])),(l,(lst (if sLt x1 z2.1.x then [.str x1 t11,.str z2.1.x z2.1.t] else [.str z2.1.x z2.1.t,.str x1 t11]) (ec + 4))),(lb,(lst (sn bs (.str x0 t10)) (e2 + 1))),(z2.1.N,(lst [(.str x1 t11)] 3)),(z8.1,(LI [.none,(.int 1 0)])),(z9.1,(tup [] 0)),((z9.1 + 1),(fds "StopIteration" [(.ref z9.1),.none,.none,.none,(.bool false),.none]))]) (z9.1 + 2) z9.2):=fx 9 ⟨⟨()⟩,fun z1=>⟨g0⟩,fun z1 z2=>⟨()⟩,fun z1 z2 z3=>⟨(0,0)⟩,fun z1 z2 z3 z4=>⟨()⟩,fun z1 z2 z3 z4 z5=>⟨(0,0)⟩,fun z1 z2 z3 z4 z5 z6=>⟨()⟩,fun z1 z2 z3 z4 z5 z6 z7=>⟨(0,0)⟩,fun z1 z2 z3 z4 z5 z6 z7 z8=>⟨(0,0)⟩,fun z1 z2 z3 z4 z5 z6 z7 z8 z9=>trivial⟩ (by kernel_rfl)
theorem h2c (G:LZ → Prop) (g0:{z:LZ // G z}) (X:LX) (aF it l lb lw:Addr) (n i sz m f j pl:Int) (S B bs:List Value) (x0 x1 x2 x3 x4:Str) (tn t0 t1 t2 t3 t4 t5 t6 t7 t8 t9 t10 t11 t12 t13 t14 t15 t16 t17 t18 t21 t22:Tok) (e e1 e2 ec:Nat):Sg b P 359 [11,11,10,10,10,1,0,0,0,1,0,0,0,1,0,0,0,0,1,2,0,10,10,10,10,0,0,10,12,12,12,10,12,12,12,12,12,10,10,14,14,14,14,0,10,0,14,14,14,14,0,0,10,12,12,12,10,12,12,12,12,12,10,10,14,14,14,14,0,10,0,14,14,14,14,0,0,10,12,12,12,0,0,10,12,12,12,10,13,13,13,13,10,14,14,14,14,14,14,14,14,14,13,0,10,10,0,10,14,14,14,15,15,15,15,15,14,15,15,10,10,0,10,10,0,15,15,15,15,14,15,15,17] [0,1,1,0,0,0,0,0,0,0,0,0,0,1,1,0,0,0,0,0,0,0,0,0,0,0,0,1,1,0,0,0,0,0,0,0,0,0,0,0,0,0,0,0,0,0,0,1,1,0,0,0,0,0,1,0,0,0,0] (flA130 aF it) (lexL P X n tn S e B e1++[(aF,(frm P [(J8,t0,(.ref X.a)),(J5,t1,(.int sz t21)),(J0,t2,(.int 2 t22)),(J4,t3,(.ref l)),(J6,t4,(.ref lb)),(J1,t5,(.int f t15)),(J12,t6,(.int j t16)),(J2,t7,(.str x3 t17)),(J28,t8,(.ref lw)),(J14,t9,(.str x4 t18))] 10)),(it,(RI [(.int i 0),(.int m 0),(.int 1 0)])),(l,(lst [(.str x0 t10),(.str x1 t11)] ec)),(lb,(lst bs e2))]) N T (.ask Unit ⟨(.builtin "range_iterator.__next__" ⟨[(.ref it)],[]⟩),0,0,[(it,(RI [(.int i 0),(.int m 0),(.int 1 0)]))],N,T⟩ [10] (fun z1=>⟨(.ret (.int i T)),[(RI [(.int (i + 1) 0),(.int (m - 1) 0),(.int 1 0)])],[],N,(T + 1)⟩) fun z1=>.ask {z:LZ // G z} ⟨(.call (.ref 95) ⟨[(.ref X.a)],[]⟩),0,0,(lexL P X n tn S e B e1),N,(T + 2)⟩ [0,1,2,3,4,5,6,7,8] (fun z2=>⟨(.ret (.str z2.1.x z2.1.t)),(lexO P X z2.1.n z2.1.tn z2.1.S z2.1.e z2.1.B z2.1.e1),[],z2.1.N,z2.1.T⟩) fun z2=>.ask Unit ⟨(.builtin "str.__le__" ⟨[(.str x0 t10),(.str z2.1.x z2.1.t)],[]⟩),0,0,[],(z2.1.N + 1),(z2.1.T + 6)⟩ [] (fun z3=>⟨(.ret (.bool true)),[],[],(z2.1.N + 1),(z2.1.T + 6)⟩) fun z3=>.ask (Nat × Nat) ⟨(.call (.ref 28) ⟨[(.ref l)],[]⟩),0,0,[(l,(lst [(.str x0 t10),(.str x1 t11)] ec))],(z2.1.N + 1),(z2.1.T + 6)⟩ [11] (fun z4=>⟨(.ret (.str x0 t10)),[(lst [(.str x1 t11)] (ec + 1))],[],z4.1,z4.2⟩) fun z4=>.ask Unit ⟨(.builtin "str.__le__" ⟨[(.str x1 t11),(.str z2.1.x z2.1.t)],[]⟩),0,0,[],z4.1,(z4.2 + 4)⟩ [] (fun z5=>⟨(.ret (.bool true)),[],[],z4.1,(z4.2 + 4)⟩) fun z5=>.ask (Nat × Nat) ⟨(.call (.ref 28) ⟨[(.ref l)],[]⟩),0,0,[(l,(lst [(.str x1 t11)] (ec + 1)))],z4.1,(z4.2 + 4)⟩ [11] (fun z6=>⟨(.ret (.str x1 t11)),[(lst [] (ec + 2))],[],z6.1,z6.2⟩) fun z6=>.ask Unit ⟨(.builtin "list.append" ⟨[(.ref lb),(.str x0 t10)],[]⟩),0,0,[(lb,(lst bs e2))],z6.1,(z6.2 + 7)⟩ [12] (fun z7=>⟨(.ret .none),[(lst (sn bs (.str x0 t10)) (e2 + 1))],[],z6.1,(z6.2 + 7)⟩) fun z7=>.ask (Nat × Nat) ⟨(.call (.ref 21) ⟨[(.ref l),(.str z2.1.x z2.1.t)],[]⟩),0,0,[(l,(lst [] (ec + 2)))],z6.1,(z6.2 + 7)⟩ [11] (fun z8=>⟨(.ret .none),[(lst [(.str z2.1.x z2.1.t)] (ec + 3))],[],z8.1,z8.2⟩) fun z8=>.ask (Nat × Nat) ⟨(.call (.ref 21) ⟨[(.ref l),(.str x1 t11)],[]⟩),0,0,[(l,(lst [(.str z2.1.x z2.1.t)] (ec + 3)))],(z8.1 + 1),(z8.2 + 1)⟩ [11] (fun z9=>⟨(.ret .none),[(lst (if sLt x1 z2.1.x then [.str x1 t11,.str z2.1.x z2.1.t] else [.str z2.1.x z2.1.t,.str x1 t11]) (ec + 4))],[],z9.1,z9.2⟩) fun z9=>.fin (.ok (.again (flA130 aF it))) (lexL P X z2.1.n z2.1.tn z2.1.S z2.1.e z2.1.B z2.1.e1++[(aF,(frm P [(J8,t0,(.ref X.a)),(J5,t1,(.int sz t21)),(J0,t2,(.int 2 t22)),(J4,t3,(.ref l)),(J6,t4,(.ref lb)),(J1,t5,(.int f t15)),(J12,t6,(.int i T)),(J2,t7,(.str z2.1.x z2.1.t)),(J28,t8,(.ref z2.1.N)),(J14,t9,(.str x1 t11))] 10)),(it,(RI [(.int (i + 1) 0),(.int (m - 1) 0),(.int 1 0)])),(l,(lst (if sLt x1 z2.1.x then [.str x1 t11,.str z2.1.x z2.1.t] else [.str z2.1.x z2.1.t,.str x1 t11]) (ec + 4))),(lb,(lst (sn bs (.str x0 t10)) (e2 + 1))),(z2.1.N,(lst [(.str x1 t11)] 3)),(z8.1,(LI [.none,(.int 1 0)])),(z9.1,(tup [] 0)),((z9.1 + 1),(fds "StopIteration" [(.ref z9.1),.none,.none,.none,(.bool false),.none]))]) (z9.1 + 2) z9.2):=fx 9 ⟨⟨()⟩,fun z1=>⟨g0⟩,fun z1 z2=>⟨()⟩,fun z1 z2 z3=>⟨(0,0)⟩,fun z1 z2 z3 z4=>⟨()⟩,fun z1 z2 z3 z4 z5=>⟨(0,0)⟩,fun z1 z2 z3 z4 z5 z6=>⟨()⟩,fun z1 z2 z3 z4 z5 z6 z7=>⟨(0,0)⟩,fun z1 z2 z3 z4 z5 z6 z7 z8=>⟨(0,0)⟩,fun z1 z2 z3 z4 z5 z6 z7 z8 z9=>trivial⟩ (by kernel_rfl)
theorem h2m (G:LZ → Prop) (g0:{z:LZ // G z}) (X:LX) (aF it l lb lw:Addr) (n i sz m f j pl:Int) (S B bs:List Value) (x0 x1 x2 x3 x4:Str) (tn t0 t1 t2 t3 t4 t5 t6 t7 t8 t9 t10 t11 t12 t13 t14 t15 t16 t17 t18 t21 t22:Tok) (e e1 e2 ec:Nat):Sg b P 302 [11,11,10,10,10,1,0,0,0,1,0,0,0,1,0,0,0,0,1,2,0,10,10,10,10,0,0,10,12,12,12,10,12,12,12,12,12,10,10,14,14,14,14,0,10,0,14,14,14,14,0,0,10,12,12,12,10,12,12,12,12,12,10,0,0,10,12,12,12,10,10,10,10,13,13,13,13,0,10,10,0,13,10,14,14,14,15,15,15,15,15,14,15,15,10,10,0,10,10,0,15,15,15,15,14,15,15,17] [0,1,1,0,0,0,0,0,0,0,0,0,0,1,1,0,0,0,0,0,0,0,0,0,0,0,0,1,0,0,0,0,0,0,0,0,1,0,1,0,0,0,0,0,1,0,0,0,0] (flA130 aF it) (lexL P X n tn S e B e1++[(aF,(frm P [(J8,t0,(.ref X.a)),(J5,t1,(.int sz t21)),(J0,t2,(.int 2 t22)),(J4,t3,(.ref l)),(J6,t4,(.ref lb)),(J1,t5,(.int f t15)),(J12,t6,(.int j t16)),(J2,t7,(.str x3 t17)),(J28,t8,(.ref lw)),(J14,t9,(.str x4 t18))] 10)),(it,(RI [(.int i 0),(.int m 0),(.int 1 0)])),(l,(lst [(.str x0 t10),(.str x1 t11)] ec)),(lb,(lst bs e2))]) N T (.ask Unit ⟨(.builtin "range_iterator.__next__" ⟨[(.ref it)],[]⟩),0,0,[(it,(RI [(.int i 0),(.int m 0),(.int 1 0)]))],N,T⟩ [10] (fun z1=>⟨(.ret (.int i T)),[(RI [(.int (i + 1) 0),(.int (m - 1) 0),(.int 1 0)])],[],N,(T + 1)⟩) fun z1=>.ask {z:LZ // G z} ⟨(.call (.ref 95) ⟨[(.ref X.a)],[]⟩),0,0,(lexL P X n tn S e B e1),N,(T + 2)⟩ [0,1,2,3,4,5,6,7,8] (fun z2=>⟨(.ret (.str z2.1.x z2.1.t)),(lexO P X z2.1.n z2.1.tn z2.1.S z2.1.e z2.1.B z2.1.e1),[],z2.1.N,z2.1.T⟩) fun z2=>.ask Unit ⟨(.builtin "str.__le__" ⟨[(.str x0 t10),(.str z2.1.x z2.1.t)],[]⟩),0,0,[],(z2.1.N + 1),(z2.1.T + 6)⟩ [] (fun z3=>⟨(.ret (.bool true)),[],[],(z2.1.N + 1),(z2.1.T + 6)⟩) fun z3=>.ask (Nat × Nat) ⟨(.call (.ref 28) ⟨[(.ref l)],[]⟩),0,0,[(l,(lst [(.str x0 t10),(.str x1 t11)] ec))],(z2.1.N + 1),(z2.1.T + 6)⟩ [11] (fun z4=>⟨(.ret (.str x0 t10)),[(lst [(.str x1 t11)] (ec + 1))],[],z4.1,z4.2⟩) fun z4=>.ask Unit ⟨(.builtin "str.__le__" ⟨[(.str x1 t11),(.str z2.1.x z2.1.t)],[]⟩),0,0,[],z4.1,(z4.2 + 4)⟩ [] (fun z5=>⟨(.ret (.bool false)),[],[],z4.1,(z4.2 + 4)⟩) fun z5=>.ask (Nat × Nat) ⟨(.call (.ref 35) ⟨[(.ref l),(.str z2.1.x z2.1.t)],[]⟩),0,0,[(l,(lst [(.str x1 t11)] (ec + 1)))],z4.1,(z4.2 + 10)⟩ [11] (fun z6=>⟨(.ret (.str x1 t11)),[(lst [(.str z2.1.x z2.1.t)] (ec + 1))],[],z6.1,z6.2⟩) fun z6=>.ask Unit ⟨(.builtin "list.append" ⟨[(.ref lb),(.str x1 t11)],[]⟩),0,0,[(lb,(lst bs e2))],z6.1,z6.2⟩ [12] (fun z7=>⟨(.ret .none),[(lst (sn bs (.str x1 t11)) (e2 + 1))],[],z6.1,z6.2⟩) fun z7=>.ask (Nat × Nat) ⟨(.call (.ref 21) ⟨[(.ref l),(.str x0 t10)],[]⟩),0,0,[(l,(lst [(.str z2.1.x z2.1.t)] (ec + 1)))],(z6.1 + 1),(z6.2 + 1)⟩ [11] (fun z8=>⟨(.ret .none),[(lst (if sLt x0 z2.1.x then [.str x0 t10,.str z2.1.x z2.1.t] else [.str z2.1.x z2.1.t,.str x0 t10]) (ec + 2))],[],z8.1,z8.2⟩) fun z8=>.fin (.ok (.again (flA130 aF it))) (lexL P X z2.1.n z2.1.tn z2.1.S z2.1.e z2.1.B z2.1.e1++[(aF,(frm P [(J8,t0,(.ref X.a)),(J5,t1,(.int sz t21)),(J0,t2,(.int 2 t22)),(J4,t3,(.ref l)),(J6,t4,(.ref lb)),(J1,t5,(.int (f + 1) (z4.2 + 8))),(J12,t6,(.int i T)),(J2,t7,(.str z2.1.x z2.1.t)),(J28,t8,(.ref z2.1.N)),(J14,t9,(.str x0 t10))] 10)),(it,(RI [(.int (i + 1) 0),(.int (m - 1) 0),(.int 1 0)])),(l,(lst (if sLt x0 z2.1.x then [.str x0 t10,.str z2.1.x z2.1.t] else [.str z2.1.x z2.1.t,.str x0 t10]) (ec + 2))),(lb,(lst (sn bs (.str x1 t11)) (e2 + 1))),(z2.1.N,(lst [(.str x0 t10)] 1)),(z6.1,(LI [.none,(.int 1 0)])),(z8.1,(tup [] 0)),((z8.1 + 1),(fds "StopIteration" [(.ref z8.1),.none,.none,.none,(.bool false),.none]))]) (z8.1 + 2) z8.2):=fx 8 ⟨⟨()⟩,fun z1=>⟨g0⟩,fun z1 z2=>⟨()⟩,fun z1 z2 z3=>⟨(0,0)⟩,fun z1 z2 z3 z4=>⟨()⟩,fun z1 z2 z3 z4 z5=>⟨(0,0)⟩,fun z1 z2 z3 z4 z5 z6=>⟨()⟩,fun z1 z2 z3 z4 z5 z6 z7=>⟨(0,0)⟩,fun z1 z2 z3 z4 z5 z6 z7 z8=>trivial⟩ (by kernel_rfl)
theorem h2b (G:LZ → Prop) (g0:{z:LZ // G z}) (X:LX) (aF it l lb lw:Addr) (n i sz m f j pl:Int) (S B bs:List Value) (x0 x1 x2 x3 x4:Str) (tn t0 t1 t2 t3 t4 t5 t6 t7 t8 t9 t10 t11 t12 t13 t14 t15 t16 t17 t18 t21 t22:Tok) (e e1 e2 ec:Nat):Sg b P 202 [11,11,10,10,10,1,0,0,0,1,0,0,0,1,0,0,0,0,1,2,0,10,10,10,10,0,0,10,12,12,12,10,12,12,12,12,12,10,0,0,10,12,12,12,10,10,10,10,13,13,13,13,0,10,10,0,13,10,14,14,14,15,15,15,15,15,14,15,15,17] [0,1,1,0,0,0,0,0,0,0,0,0,0,1,0,0,0,0,0,0,0,0,1,0,1,0,0,0,0,0,0] (flA130 aF it) (lexL P X n tn S e B e1++[(aF,(frm P [(J8,t0,(.ref X.a)),(J5,t1,(.int sz t21)),(J0,t2,(.int 2 t22)),(J4,t3,(.ref l)),(J6,t4,(.ref lb)),(J1,t5,(.int f t15)),(J12,t6,(.int j t16)),(J2,t7,(.str x3 t17)),(J28,t8,(.ref lw)),(J14,t9,(.str x4 t18))] 10)),(it,(RI [(.int i 0),(.int m 0),(.int 1 0)])),(l,(lst [(.str x0 t10),(.str x1 t11)] ec)),(lb,(lst bs e2))]) N T (.ask Unit ⟨(.builtin "range_iterator.__next__" ⟨[(.ref it)],[]⟩),0,0,[(it,(RI [(.int i 0),(.int m 0),(.int 1 0)]))],N,T⟩ [10] (fun z1=>⟨(.ret (.int i T)),[(RI [(.int (i + 1) 0),(.int (m - 1) 0),(.int 1 0)])],[],N,(T + 1)⟩) fun z1=>.ask {z:LZ // G z} ⟨(.call (.ref 95) ⟨[(.ref X.a)],[]⟩),0,0,(lexL P X n tn S e B e1),N,(T + 2)⟩ [0,1,2,3,4,5,6,7,8] (fun z2=>⟨(.ret (.str z2.1.x z2.1.t)),(lexO P X z2.1.n z2.1.tn z2.1.S z2.1.e z2.1.B z2.1.e1),[],z2.1.N,z2.1.T⟩) fun z2=>.ask Unit ⟨(.builtin "str.__le__" ⟨[(.str x0 t10),(.str z2.1.x z2.1.t)],[]⟩),0,0,[],(z2.1.N + 1),(z2.1.T + 6)⟩ [] (fun z3=>⟨(.ret (.bool false)),[],[],(z2.1.N + 1),(z2.1.T + 6)⟩) fun z3=>.ask (Nat × Nat) ⟨(.call (.ref 35) ⟨[(.ref l),(.str z2.1.x z2.1.t)],[]⟩),0,0,[(l,(lst [(.str x0 t10),(.str x1 t11)] ec))],(z2.1.N + 1),(z2.1.T + 12)⟩ [11] (fun z4=>⟨(.ret (.str x0 t10)),[(lst (if sLt z2.1.x x1 then [.str z2.1.x z2.1.t,.str x1 t11] else [.str x1 t11,.str z2.1.x z2.1.t]) ec)],[],z4.1,z4.2⟩) fun z4=>.ask Unit ⟨(.builtin "list.append" ⟨[(.ref lb),(.str x0 t10)],[]⟩),0,0,[(lb,(lst bs e2))],z4.1,z4.2⟩ [12] (fun z5=>⟨(.ret .none),[(lst (sn bs (.str x0 t10)) (e2 + 1))],[],z4.1,z4.2⟩) fun z5=>.fin (.ok (.again (flA130 aF it))) (lexL P X z2.1.n z2.1.tn z2.1.S z2.1.e z2.1.B z2.1.e1++[(aF,(frm P [(J8,t0,(.ref X.a)),(J5,t1,(.int sz t21)),(J0,t2,(.int 2 t22)),(J4,t3,(.ref l)),(J6,t4,(.ref lb)),(J1,t5,(.int (f + 1) (z2.1.T + 10))),(J12,t6,(.int i T)),(J2,t7,(.str z2.1.x z2.1.t)),(J28,t8,(.ref z2.1.N)),(J14,t9,(.str x4 t18))] 10)),(it,(RI [(.int (i + 1) 0),(.int (m - 1) 0),(.int 1 0)])),(l,(lst (if sLt z2.1.x x1 then [.str z2.1.x z2.1.t,.str x1 t11] else [.str x1 t11,.str z2.1.x z2.1.t]) ec)),(lb,(lst (sn bs (.str x0 t10)) (e2 + 1))),(z2.1.N,(lst [] 0)),(z4.1,(LI [.none,(.int 0 0)])),((z4.1 + 1),(tup [] 0)),((z4.1 + 2),(fds "StopIteration" [(.ref (z4.1 + 1)),.none,.none,.none,(.bool false),.none]))]) (z4.1 + 3) z4.2):=fx 5 ⟨⟨()⟩,fun z1=>⟨g0⟩,fun z1 z2=>⟨()⟩,fun z1 z2 z3=>⟨(0,0)⟩,fun z1 z2 z3 z4=>⟨()⟩,fun z1 z2 z3 z4 z5=>trivial⟩ (by kernel_rfl)
theorem h1z (G:LZ → Prop) (g0:{z:LZ // G z}) (X:LX) (aF it l lb lw:Addr) (n i sz m f j pl:Int) (S B bs:List Value) (x0 x1 x2 x3 x4:Str) (tn t0 t1 t2 t3 t4 t5 t6 t7 t8 t9 t10 t11 t12 t13 t14 t15 t16 t17 t18 t21 t22:Tok) (e e1 e2 ec:Nat):Sg b P 20 [11,11,11,11,11,15] [0,0] (flA130 aF it) (lexL P X n tn S e B e1++[(aF,(frm P [(J8,t0,(.ref X.a)),(J5,t1,(.int sz t21)),(J0,t2,(.int 1 t22)),(J4,t3,(.ref l)),(J6,t4,(.ref lb)),(J1,t5,(.int f t15)),(J12,t6,(.int j t16)),(J2,t7,(.str x3 t17)),(J28,t8,(.ref lw))] 9)),(it,(RI [(.int i 0),(.int 0 0),(.int 1 0)])),(l,(lst [(.str x0 t10)] ec)),(lb,(lst bs e2))]) N T (.fin (.ok (.again (bl130 aF))) (lexL P X n tn S e B e1++[(aF,(frm P [(J8,t0,(.ref X.a)),(J5,t1,(.int sz t21)),(J0,t2,(.int 1 t22)),(J4,t3,(.ref l)),(J6,t4,(.ref lb)),(J1,t5,(.int f t15)),(J12,t6,(.int j t16)),(J2,t7,(.str x3 t17)),(J28,t8,(.ref lw))] 9)),(it,(RI [(.int i 0),(.int 0 0),(.int 1 0)])),(l,(lst [(.str x0 t10)] ec)),(lb,(lst bs e2)),(N,(tup [] 0)),((N + 1),(fds "StopIteration" [(.ref N),.none,.none,.none,(.bool false),.none]))]) (N + 2) T):=fx 0 trivial (by kernel_rfl)
theorem h2z (G:LZ → Prop) (g0:{z:LZ // G z}) (X:LX) (aF it l lb lw:Addr) (n i sz m f j pl:Int) (S B bs:List Value) (x0 x1 x2 x3 x4:Str) (tn t0 t1 t2 t3 t4 t5 t6 t7 t8 t9 t10 t11 t12 t13 t14 t15 t16 t17 t18 t21 t22:Tok) (e e1 e2 ec:Nat):Sg b P 20 [11,11,11,11,11,15] [0,0] (flA130 aF it) (lexL P X n tn S e B e1++[(aF,(frm P [(J8,t0,(.ref X.a)),(J5,t1,(.int sz t21)),(J0,t2,(.int 2 t22)),(J4,t3,(.ref l)),(J6,t4,(.ref lb)),(J1,t5,(.int f t15)),(J12,t6,(.int j t16)),(J2,t7,(.str x3 t17)),(J28,t8,(.ref lw)),(J14,t9,(.str x4 t18))] 10)),(it,(RI [(.int i 0),(.int 0 0),(.int 1 0)])),(l,(lst [(.str x0 t10),(.str x1 t11)] ec)),(lb,(lst bs e2))]) N T (.fin (.ok (.again (bl130 aF))) (lexL P X n tn S e B e1++[(aF,(frm P [(J8,t0,(.ref X.a)),(J5,t1,(.int sz t21)),(J0,t2,(.int 2 t22)),(J4,t3,(.ref l)),(J6,t4,(.ref lb)),(J1,t5,(.int f t15)),(J12,t6,(.int j t16)),(J2,t7,(.str x3 t17)),(J28,t8,(.ref lw)),(J14,t9,(.str x4 t18))] 10)),(it,(RI [(.int i 0),(.int 0 0),(.int 1 0)])),(l,(lst [(.str x0 t10),(.str x1 t11)] ec)),(lb,(lst bs e2)),(N,(tup [] 0)),((N + 1),(fds "StopIteration" [(.ref N),.none,.none,.none,(.bool false),.none]))]) (N + 2) T):=fx 0 trivial (by kernel_rfl)
theorem r2s (G:LZ → Prop) (g0:{z:LZ // G z}) (X:LX) (aF it l lb lw:Addr) (n i sz m f j pl:Int) (S B bs:List Value) (x0 x1 x2 x3 x4:Str) (tn t0 t1 t2 t3 t4 t5 t6 t7 t8 t9 t10 t11 t12 t13 t14 t15 t16 t17 t18 t21 t22:Tok) (e e1 e2 ec:Nat):Sg b P 131 [11,11,10,10,10,1,0,0,0,1,0,0,0,1,0,0,0,0,1,2,0,10,10,0,10,10,0,10,10,10,10,10,10,10,13,13,13,13,10,12,12,12,12,10,12,12,12,12,12,13,0,10,10,0] [0,1,1,1,0,0,0,0,0,1,1] (flA137 aF it) (lexL P X n tn S e B e1++[(aF,(frm P [(J8,t0,(.ref X.a)),(J5,t1,(.int sz t21)),(J0,t2,(.int 2 t22)),(J4,t3,(.ref l)),(J6,t4,(.ref lb)),(J1,t5,(.int f t15))] 6)),(it,(RI [(.int i 0),(.int m 0),(.int 1 0)])),(l,(lst [(.str x0 t10),(.str x1 t11)] ec)),(lb,(lst bs e2))]) N T (.ask Unit ⟨(.builtin "range_iterator.__next__" ⟨[(.ref it)],[]⟩),0,0,[(it,(RI [(.int i 0),(.int m 0),(.int 1 0)]))],N,T⟩ [10] (fun z1=>⟨(.ret (.int i T)),[(RI [(.int (i + 1) 0),(.int (m - 1) 0),(.int 1 0)])],[],N,(T + 1)⟩) fun z1=>.ask {z:LZ // G z} ⟨(.call (.ref 95) ⟨[(.ref X.a)],[]⟩),0,0,(lexL P X n tn S e B e1),N,(T + 2)⟩ [0,1,2,3,4,5,6,7,8] (fun z2=>⟨(.ret (.str z2.1.x z2.1.t)),(lexO P X z2.1.n z2.1.tn z2.1.S z2.1.e z2.1.B z2.1.e1),[],z2.1.N,z2.1.T⟩) fun z2=>.ask (Nat × Nat × Tok) ⟨(.call (.ref 67) ⟨[(.ref l),(.str z2.1.x z2.1.t)],[]⟩),0,0,[(l,(lst [(.str x0 t10),(.str x1 t11)] ec))],z2.1.N,(z2.1.T + 1)⟩ [11] (fun z3=>⟨(.ret (.int 2 z3.2.2)),[(lst [(.str x0 t10),(.str x1 t11)] ec)],[],z3.1,z3.2.1⟩) fun z3=>.ask Unit ⟨(.builtin "list.append" ⟨[(.ref lb),(.str x0 t10)],[]⟩),0,0,[(lb,(lst bs e2))],z3.1,(z3.2.1 + 3)⟩ [12] (fun z4=>⟨(.ret .none),[(lst (sn bs (.str x0 t10)) (e2 + 1))],[],z3.1,(z3.2.1 + 3)⟩) fun z4=>.ask (Nat × Nat) ⟨(.call (.ref 58) ⟨[(.ref l),(.str z2.1.x z2.1.t)],[]⟩),0,0,[(l,(lst [(.str x1 t11)] (ec + 1)))],z3.1,(z3.2.1 + 3)⟩ [11] (fun z5=>⟨(.ret .none),[(lst (if sLt z2.1.x x1 then [.str z2.1.x z2.1.t,.str x1 t11] else [.str x1 t11,.str z2.1.x z2.1.t]) (ec + 2))],[],z5.1,z5.2⟩) fun z5=>.fin (.ok (.again (flA137 aF it))) (lexL P X z2.1.n z2.1.tn z2.1.S z2.1.e z2.1.B z2.1.e1++[(aF,(frm P [(J8,t0,(.ref X.a)),(J5,t1,(.int sz t21)),(J0,t2,(.int 2 t22)),(J4,t3,(.ref l)),(J6,t4,(.ref lb)),(J1,t5,(.int f t15)),(J12,(T + 1),(.int i T)),(J2,z2.1.T,(.str z2.1.x z2.1.t)),(J18,z3.2.1,(.int 0 (z3.2.1 + 1)))] 9)),(it,(RI [(.int (i + 1) 0),(.int (m - 1) 0),(.int 1 0)])),(l,(lst (if sLt z2.1.x x1 then [.str z2.1.x z2.1.t,.str x1 t11] else [.str x1 t11,.str z2.1.x z2.1.t]) (ec + 2))),(lb,(lst (sn bs (.str x0 t10)) (e2 + 1)))]) z5.1 z5.2):=fx 5 ⟨⟨()⟩,fun z1=>⟨g0⟩,fun z1 z2=>⟨(0,0,0)⟩,fun z1 z2 z3=>⟨()⟩,fun z1 z2 z3 z4=>⟨(0,0)⟩,fun z1 z2 z3 z4 z5=>trivial⟩ (by kernel_rfl)
theorem r2_0 (G:LZ → Prop) (g0:{z:LZ // G z}) (X:LX) (aF it l lb lw:Addr) (n i sz m f j pl:Int) (S B bs:List Value) (x0 x1 x2 x3 x4:Str) (tn t0 t1 t2 t3 t4 t5 t6 t7 t8 t9 t10 t11 t12 t13 t14 t15 t16 t17 t18 t21 t22:Tok) (e e1 e2 ec:Nat):Sg b P 137 [11,11,10,10,10,1,0,0,0,1,0,0,0,1,0,0,0,0,1,2,0,10,10,0,10,10,0,10,10,10,10,10,10,10,10,13,13,13,13,10,12,12,12,12,10,12,12,12,12,12,13,0,10,10,0] [0,1,1,1,0,0,0,0,0,0,0,1,1] (flA137 aF it) (lexL P X n tn S e B e1++[(aF,(frm P [(J8,t0,(.ref X.a)),(J5,t1,(.int sz t21)),(J0,t2,(.int 2 t22)),(J4,t3,(.ref l)),(J6,t4,(.ref lb)),(J1,t5,(.int f t15)),(J12,t6,(.int j t16)),(J2,t7,(.str x3 t17)),(J18,t8,(.int pl t18))] 9)),(it,(RI [(.int i 0),(.int m 0),(.int 1 0)])),(l,(lst [(.str x0 t10),(.str x1 t11)] ec)),(lb,(lst bs e2))]) N T (.ask Unit ⟨(.builtin "range_iterator.__next__" ⟨[(.ref it)],[]⟩),0,0,[(it,(RI [(.int i 0),(.int m 0),(.int 1 0)]))],N,T⟩ [10] (fun z1=>⟨(.ret (.int i T)),[(RI [(.int (i + 1) 0),(.int (m - 1) 0),(.int 1 0)])],[],N,(T + 1)⟩) fun z1=>.ask {z:LZ // G z} ⟨(.call (.ref 95) ⟨[(.ref X.a)],[]⟩),0,0,(lexL P X n tn S e B e1),N,(T + 2)⟩ [0,1,2,3,4,5,6,7,8] (fun z2=>⟨(.ret (.str z2.1.x z2.1.t)),(lexO P X z2.1.n z2.1.tn z2.1.S z2.1.e z2.1.B z2.1.e1),[],z2.1.N,z2.1.T⟩) fun z2=>.ask (Nat × Nat × Tok) ⟨(.call (.ref 67) ⟨[(.ref l),(.str z2.1.x z2.1.t)],[]⟩),0,0,[(l,(lst [(.str x0 t10),(.str x1 t11)] ec))],z2.1.N,(z2.1.T + 1)⟩ [11] (fun z3=>⟨(.ret (.int 0 z3.2.2)),[(lst [(.str x0 t10),(.str x1 t11)] ec)],[],z3.1,z3.2.1⟩) fun z3=>.ask Unit ⟨(.builtin "list.append" ⟨[(.ref lb),(.str x0 t10)],[]⟩),0,0,[(lb,(lst bs e2))],z3.1,(z3.2.1 + 4)⟩ [12] (fun z4=>⟨(.ret .none),[(lst (sn bs (.str x0 t10)) (e2 + 1))],[],z3.1,(z3.2.1 + 4)⟩) fun z4=>.ask (Nat × Nat) ⟨(.call (.ref 58) ⟨[(.ref l),(.str z2.1.x z2.1.t)],[]⟩),0,0,[(l,(lst [(.str x1 t11)] (ec + 1)))],z3.1,(z3.2.1 + 4)⟩ [11] (fun z5=>⟨(.ret .none),[(lst (if sLt z2.1.x x1 then [.str z2.1.x z2.1.t,.str x1 t11] else [.str x1 t11,.str z2.1.x z2.1.t]) (ec + 2))],[],z5.1,z5.2⟩) fun z5=>.fin (.ok (.again (flA137 aF it))) (lexL P X z2.1.n z2.1.tn z2.1.S z2.1.e z2.1.B z2.1.e1++[(aF,(frm P [(J8,t0,(.ref X.a)),(J5,t1,(.int sz t21)),(J0,t2,(.int 2 t22)),(J4,t3,(.ref l)),(J6,t4,(.ref lb)),(J1,t5,(.int (f + 1) (z3.2.1 + 2))),(J12,t6,(.int i T)),(J2,t7,(.str z2.1.x z2.1.t)),(J18,t8,(.int 0 z3.2.2))] 9)),(it,(RI [(.int (i + 1) 0),(.int (m - 1) 0),(.int 1 0)])),(l,(lst (if sLt z2.1.x x1 then [.str z2.1.x z2.1.t,.str x1 t11] else [.str x1 t11,.str z2.1.x z2.1.t]) (ec + 2))),(lb,(lst (sn bs (.str x0 t10)) (e2 + 1)))]) z5.1 z5.2):=fx 5 ⟨⟨()⟩,fun z1=>⟨g0⟩,fun z1 z2=>⟨(0,0,0)⟩,fun z1 z2 z3=>⟨()⟩,fun z1 z2 z3 z4=>⟨(0,0)⟩,fun z1 z2 z3 z4 z5=>trivial⟩ (by kernel_rfl)
theorem r2_1 (G:LZ → Prop) (g0:{z:LZ // G z}) (X:LX) (aF it l lb lw:Addr) (n i sz m f j pl:Int) (S B bs:List Value) (x0 x1 x2 x3 x4:Str) (tn t0 t1 t2 t3 t4 t5 t6 t7 t8 t9 t10 t11 t12 t13 t14 t15 t16 t17 t18 t21 t22:Tok) (e e1 e2 ec:Nat):Sg b P 137 [11,11,10,10,10,1,0,0,0,1,0,0,0,1,0,0,0,0,1,2,0,10,10,0,10,10,0,10,10,10,10,10,10,10,10,13,13,13,13,10,12,12,12,12,10,12,12,12,12,12,13,0,10,10,0] [0,1,1,1,0,0,0,0,0,0,0,1,1] (flA137 aF it) (lexL P X n tn S e B e1++[(aF,(frm P [(J8,t0,(.ref X.a)),(J5,t1,(.int sz t21)),(J0,t2,(.int 2 t22)),(J4,t3,(.ref l)),(J6,t4,(.ref lb)),(J1,t5,(.int f t15)),(J12,t6,(.int j t16)),(J2,t7,(.str x3 t17)),(J18,t8,(.int pl t18))] 9)),(it,(RI [(.int i 0),(.int m 0),(.int 1 0)])),(l,(lst [(.str x0 t10),(.str x1 t11)] ec)),(lb,(lst bs e2))]) N T (.ask Unit ⟨(.builtin "range_iterator.__next__" ⟨[(.ref it)],[]⟩),0,0,[(it,(RI [(.int i 0),(.int m 0),(.int 1 0)]))],N,T⟩ [10] (fun z1=>⟨(.ret (.int i T)),[(RI [(.int (i + 1) 0),(.int (m - 1) 0),(.int 1 0)])],[],N,(T + 1)⟩) fun z1=>.ask {z:LZ // G z} ⟨(.call (.ref 95) ⟨[(.ref X.a)],[]⟩),0,0,(lexL P X n tn S e B e1),N,(T + 2)⟩ [0,1,2,3,4,5,6,7,8] (fun z2=>⟨(.ret (.str z2.1.x z2.1.t)),(lexO P X z2.1.n z2.1.tn z2.1.S z2.1.e z2.1.B z2.1.e1),[],z2.1.N,z2.1.T⟩) fun z2=>.ask (Nat × Nat × Tok) ⟨(.call (.ref 67) ⟨[(.ref l),(.str z2.1.x z2.1.t)],[]⟩),0,0,[(l,(lst [(.str x0 t10),(.str x1 t11)] ec))],z2.1.N,(z2.1.T + 1)⟩ [11] (fun z3=>⟨(.ret (.int 1 z3.2.2)),[(lst [(.str x0 t10),(.str x1 t11)] ec)],[],z3.1,z3.2.1⟩) fun z3=>.ask Unit ⟨(.builtin "list.append" ⟨[(.ref lb),(.str x1 t11)],[]⟩),0,0,[(lb,(lst bs e2))],z3.1,(z3.2.1 + 4)⟩ [12] (fun z4=>⟨(.ret .none),[(lst (sn bs (.str x1 t11)) (e2 + 1))],[],z3.1,(z3.2.1 + 4)⟩) fun z4=>.ask (Nat × Nat) ⟨(.call (.ref 58) ⟨[(.ref l),(.str z2.1.x z2.1.t)],[]⟩),0,0,[(l,(lst [(.str x0 t10)] (ec + 1)))],z3.1,(z3.2.1 + 4)⟩ [11] (fun z5=>⟨(.ret .none),[(lst (if sLt z2.1.x x0 then [.str z2.1.x z2.1.t,.str x0 t10] else [.str x0 t10,.str z2.1.x z2.1.t]) (ec + 2))],[],z5.1,z5.2⟩) fun z5=>.fin (.ok (.again (flA137 aF it))) (lexL P X z2.1.n z2.1.tn z2.1.S z2.1.e z2.1.B z2.1.e1++[(aF,(frm P [(J8,t0,(.ref X.a)),(J5,t1,(.int sz t21)),(J0,t2,(.int 2 t22)),(J4,t3,(.ref l)),(J6,t4,(.ref lb)),(J1,t5,(.int (f + 1) (z3.2.1 + 2))),(J12,t6,(.int i T)),(J2,t7,(.str z2.1.x z2.1.t)),(J18,t8,(.int 1 z3.2.2))] 9)),(it,(RI [(.int (i + 1) 0),(.int (m - 1) 0),(.int 1 0)])),(l,(lst (if sLt z2.1.x x0 then [.str z2.1.x z2.1.t,.str x0 t10] else [.str x0 t10,.str z2.1.x z2.1.t]) (ec + 2))),(lb,(lst (sn bs (.str x1 t11)) (e2 + 1)))]) z5.1 z5.2):=fx 5 ⟨⟨()⟩,fun z1=>⟨g0⟩,fun z1 z2=>⟨(0,0,0)⟩,fun z1 z2 z3=>⟨()⟩,fun z1 z2 z3 z4=>⟨(0,0)⟩,fun z1 z2 z3 z4 z5=>trivial⟩ (by kernel_rfl)
theorem r2_2 (G:LZ → Prop) (g0:{z:LZ // G z}) (X:LX) (aF it l lb lw:Addr) (n i sz m f j pl:Int) (S B bs:List Value) (x0 x1 x2 x3 x4:Str) (tn t0 t1 t2 t3 t4 t5 t6 t7 t8 t9 t10 t11 t12 t13 t14 t15 t16 t17 t18 t21 t22:Tok) (e e1 e2 ec:Nat):Sg b P 131 [11,11,10,10,10,1,0,0,0,1,0,0,0,1,0,0,0,0,1,2,0,10,10,0,10,10,0,10,10,10,10,10,10,10,13,13,13,13,10,12,12,12,12,10,12,12,12,12,12,13,0,10,10,0] [0,1,1,1,0,0,0,0,0,1,1] (flA137 aF it) (lexL P X n tn S e B e1++[(aF,(frm P [(J8,t0,(.ref X.a)),(J5,t1,(.int sz t21)),(J0,t2,(.int 2 t22)),(J4,t3,(.ref l)),(J6,t4,(.ref lb)),(J1,t5,(.int f t15)),(J12,t6,(.int j t16)),(J2,t7,(.str x3 t17)),(J18,t8,(.int pl t18))] 9)),(it,(RI [(.int i 0),(.int m 0),(.int 1 0)])),(l,(lst [(.str x0 t10),(.str x1 t11)] ec)),(lb,(lst bs e2))]) N T (.ask Unit ⟨(.builtin "range_iterator.__next__" ⟨[(.ref it)],[]⟩),0,0,[(it,(RI [(.int i 0),(.int m 0),(.int 1 0)]))],N,T⟩ [10] (fun z1=>⟨(.ret (.int i T)),[(RI [(.int (i + 1) 0),(.int (m - 1) 0),(.int 1 0)])],[],N,(T + 1)⟩) fun z1=>.ask {z:LZ // G z} ⟨(.call (.ref 95) ⟨[(.ref X.a)],[]⟩),0,0,(lexL P X n tn S e B e1),N,(T + 2)⟩ [0,1,2,3,4,5,6,7,8] (fun z2=>⟨(.ret (.str z2.1.x z2.1.t)),(lexO P X z2.1.n z2.1.tn z2.1.S z2.1.e z2.1.B z2.1.e1),[],z2.1.N,z2.1.T⟩) fun z2=>.ask (Nat × Nat × Tok) ⟨(.call (.ref 67) ⟨[(.ref l),(.str z2.1.x z2.1.t)],[]⟩),0,0,[(l,(lst [(.str x0 t10),(.str x1 t11)] ec))],z2.1.N,(z2.1.T + 1)⟩ [11] (fun z3=>⟨(.ret (.int 2 z3.2.2)),[(lst [(.str x0 t10),(.str x1 t11)] ec)],[],z3.1,z3.2.1⟩) fun z3=>.ask Unit ⟨(.builtin "list.append" ⟨[(.ref lb),(.str x0 t10)],[]⟩),0,0,[(lb,(lst bs e2))],z3.1,(z3.2.1 + 3)⟩ [12] (fun z4=>⟨(.ret .none),[(lst (sn bs (.str x0 t10)) (e2 + 1))],[],z3.1,(z3.2.1 + 3)⟩) fun z4=>.ask (Nat × Nat) ⟨(.call (.ref 58) ⟨[(.ref l),(.str z2.1.x z2.1.t)],[]⟩),0,0,[(l,(lst [(.str x1 t11)] (ec + 1)))],z3.1,(z3.2.1 + 3)⟩ [11] (fun z5=>⟨(.ret .none),[(lst (if sLt z2.1.x x1 then [.str z2.1.x z2.1.t,.str x1 t11] else [.str x1 t11,.str z2.1.x z2.1.t]) (ec + 2))],[],z5.1,z5.2⟩) fun z5=>.fin (.ok (.again (flA137 aF it))) (lexL P X z2.1.n z2.1.tn z2.1.S z2.1.e z2.1.B z2.1.e1++[(aF,(frm P [(J8,t0,(.ref X.a)),(J5,t1,(.int sz t21)),(J0,t2,(.int 2 t22)),(J4,t3,(.ref l)),(J6,t4,(.ref lb)),(J1,t5,(.int f t15)),(J12,t6,(.int i T)),(J2,t7,(.str z2.1.x z2.1.t)),(J18,t8,(.int 0 (z3.2.1 + 1)))] 9)),(it,(RI [(.int (i + 1) 0),(.int (m - 1) 0),(.int 1 0)])),(l,(lst (if sLt z2.1.x x1 then [.str z2.1.x z2.1.t,.str x1 t11] else [.str x1 t11,.str z2.1.x z2.1.t]) (ec + 2))),(lb,(lst (sn bs (.str x0 t10)) (e2 + 1)))]) z5.1 z5.2):=fx 5 ⟨⟨()⟩,fun z1=>⟨g0⟩,fun z1 z2=>⟨(0,0,0)⟩,fun z1 z2 z3=>⟨()⟩,fun z1 z2 z3 z4=>⟨(0,0)⟩,fun z1 z2 z3 z4 z5=>trivial⟩ (by kernel_rfl)
theorem r3s (G:LZ → Prop) (g0:{z:LZ // G z}) (X:LX) (aF it l lb lw:Addr) (n i sz m f j pl:Int) (S B bs:List Value) (x0 x1 x2 x3 x4:Str) (tn t0 t1 t2 t3 t4 t5 t6 t7 t8 t9 t10 t11 t12 t13 t14 t15 t16 t17 t18 t21 t22:Tok) (e e1 e2 ec:Nat):Sg b P 131 [11,11,10,10,10,1,0,0,0,1,0,0,0,1,0,0,0,0,1,2,0,10,10,0,10,10,0,10,10,10,10,10,10,10,13,13,13,13,10,12,12,12,12,10,12,12,12,12,12,13,0,10,10,0] [0,1,1,1,0,0,0,0,0,1,1] (flA137 aF it) (lexL P X n tn S e B e1++[(aF,(frm P [(J8,t0,(.ref X.a)),(J5,t1,(.int sz t21)),(J0,t2,(.int 3 t22)),(J4,t3,(.ref l)),(J6,t4,(.ref lb)),(J1,t5,(.int f t15))] 6)),(it,(RI [(.int i 0),(.int m 0),(.int 1 0)])),(l,(lst [(.str x0 t10),(.str x1 t11),(.str x2 t12)] ec)),(lb,(lst bs e2))]) N T (.ask Unit ⟨(.builtin "range_iterator.__next__" ⟨[(.ref it)],[]⟩),0,0,[(it,(RI [(.int i 0),(.int m 0),(.int 1 0)]))],N,T⟩ [10] (fun z1=>⟨(.ret (.int i T)),[(RI [(.int (i + 1) 0),(.int (m - 1) 0),(.int 1 0)])],[],N,(T + 1)⟩) fun z1=>.ask {z:LZ // G z} ⟨(.call (.ref 95) ⟨[(.ref X.a)],[]⟩),0,0,(lexL P X n tn S e B e1),N,(T + 2)⟩ [0,1,2,3,4,5,6,7,8] (fun z2=>⟨(.ret (.str z2.1.x z2.1.t)),(lexO P X z2.1.n z2.1.tn z2.1.S z2.1.e z2.1.B z2.1.e1),[],z2.1.N,z2.1.T⟩) fun z2=>.ask (Nat × Nat × Tok) ⟨(.call (.ref 67) ⟨[(.ref l),(.str z2.1.x z2.1.t)],[]⟩),0,0,[(l,(lst [(.str x0 t10),(.str x1 t11),(.str x2 t12)] ec))],z2.1.N,(z2.1.T + 1)⟩ [11] (fun z3=>⟨(.ret (.int 3 z3.2.2)),[(lst [(.str x0 t10),(.str x1 t11),(.str x2 t12)] ec)],[],z3.1,z3.2.1⟩) fun z3=>.ask Unit ⟨(.builtin "list.append" ⟨[(.ref lb),(.str x0 t10)],[]⟩),0,0,[(lb,(lst bs e2))],z3.1,(z3.2.1 + 3)⟩ [12] (fun z4=>⟨(.ret .none),[(lst (sn bs (.str x0 t10)) (e2 + 1))],[],z3.1,(z3.2.1 + 3)⟩) fun z4=>.ask (Nat × Nat) ⟨(.call (.ref 58) ⟨[(.ref l),(.str z2.1.x z2.1.t)],[]⟩),0,0,[(l,(lst [(.str x1 t11),(.str x2 t12)] (ec + 1)))],z3.1,(z3.2.1 + 3)⟩ [11] (fun z5=>⟨(.ret .none),[(lst (if sLt z2.1.x x2 then (if sLt z2.1.x x1 then [.str z2.1.x z2.1.t,.str x1 t11,.str x2 t12] else [.str x1 t11,.str z2.1.x z2.1.t,.str x2 t12]) else [.str x1 t11,.str x2 t12,.str z2.1.x z2.1.t]) (ec + 2))],[],z5.1,z5.2⟩) fun z5=>.fin (.ok (.again (flA137 aF it))) (lexL P X z2.1.n z2.1.tn z2.1.S z2.1.e z2.1.B z2.1.e1++[(aF,(frm P [(J8,t0,(.ref X.a)),(J5,t1,(.int sz t21)),(J0,t2,(.int 3 t22)),(J4,t3,(.ref l)),(J6,t4,(.ref lb)),(J1,t5,(.int f t15)),(J12,(T + 1),(.int i T)),(J2,z2.1.T,(.str z2.1.x z2.1.t)),(J18,z3.2.1,(.int 0 (z3.2.1 + 1)))] 9)),(it,(RI [(.int (i + 1) 0),(.int (m - 1) 0),(.int 1 0)])),(l,(lst (if sLt z2.1.x x2 then (if sLt z2.1.x x1 then [.str z2.1.x z2.1.t,.str x1 t11,.str x2 t12] else [.str x1 t11,.str z2.1.x z2.1.t,.str x2 t12]) else [.str x1 t11,.str x2 t12,.str z2.1.x z2.1.t]) (ec + 2))),(lb,(lst (sn bs (.str x0 t10)) (e2 + 1)))]) z5.1 z5.2):=fx 5 ⟨⟨()⟩,fun z1=>⟨g0⟩,fun z1 z2=>⟨(0,0,0)⟩,fun z1 z2 z3=>⟨()⟩,fun z1 z2 z3 z4=>⟨(0,0)⟩,fun z1 z2 z3 z4 z5=>trivial⟩ (by kernel_rfl)
theorem r3_0 (G:LZ → Prop) (g0:{z:LZ // G z}) (X:LX) (aF it l lb lw:Addr) (n i sz m f j pl:Int) (S B bs:List Value) (x0 x1 x2 x3 x4:Str) (tn t0 t1 t2 t3 t4 t5 t6 t7 t8 t9 t10 t11 t12 t13 t14 t15 t16 t17 t18 t21 t22:Tok) (e e1 e2 ec:Nat):Sg b P 137 [11,11,10,10,10,1,0,0,0,1,0,0,0,1,0,0,0,0,1,2,0,10,10,0,10,10,0,10,10,10,10,10,10,10,10,13,13,13,13,10,12,12,12,12,10,12,12,12,12,12,13,0,10,10,0] [0,1,1,1,0,0,0,0,0,0,0,1,1] (flA137 aF it) (lexL P X n tn S e B e1++[(aF,(frm P [(J8,t0,(.ref X.a)),(J5,t1,(.int sz t21)),(J0,t2,(.int 3 t22)),(J4,t3,(.ref l)),(J6,t4,(.ref lb)),(J1,t5,(.int f t15)),(J12,t6,(.int j t16)),(J2,t7,(.str x3 t17)),(J18,t8,(.int pl t18))] 9)),(it,(RI [(.int i 0),(.int m 0),(.int 1 0)])),(l,(lst [(.str x0 t10),(.str x1 t11),(.str x2 t12)] ec)),(lb,(lst bs e2))]) N T (.ask Unit ⟨(.builtin "range_iterator.__next__" ⟨[(.ref it)],[]⟩),0,0,[(it,(RI [(.int i 0),(.int m 0),(.int 1 0)]))],N,T⟩ [10] (fun z1=>⟨(.ret (.int i T)),[(RI [(.int (i + 1) 0),(.int (m - 1) 0),(.int 1 0)])],[],N,(T + 1)⟩) fun z1=>.ask {z:LZ // G z} ⟨(.call (.ref 95) ⟨[(.ref X.a)],[]⟩),0,0,(lexL P X n tn S e B e1),N,(T + 2)⟩ [0,1,2,3,4,5,6,7,8] (fun z2=>⟨(.ret (.str z2.1.x z2.1.t)),(lexO P X z2.1.n z2.1.tn z2.1.S z2.1.e z2.1.B z2.1.e1),[],z2.1.N,z2.1.T⟩) fun z2=>.ask (Nat × Nat × Tok) ⟨(.call (.ref 67) ⟨[(.ref l),(.str z2.1.x z2.1.t)],[]⟩),0,0,[(l,(lst [(.str x0 t10),(.str x1 t11),(.str x2 t12)] ec))],z2.1.N,(z2.1.T + 1)⟩ [11] (fun z3=>⟨(.ret (.int 0 z3.2.2)),[(lst [(.str x0 t10),(.str x1 t11),(.str x2 t12)] ec)],[],z3.1,z3.2.1⟩) fun z3=>.ask Unit ⟨(.builtin "list.append" ⟨[(.ref lb),(.str x0 t10)],[]⟩),0,0,[(lb,(lst bs e2))],z3.1,(z3.2.1 + 4)⟩ [12] (fun z4=>⟨(.ret .none),[(lst (sn bs (.str x0 t10)) (e2 + 1))],[],z3.1,(z3.2.1 + 4)⟩) fun z4=>.ask (Nat × Nat) ⟨(.call (.ref 58) ⟨[(.ref l),(.str z2.1.x z2.1.t)],[]⟩),0,0,[(l,(lst [(.str x1 t11),(.str x2 t12)] (ec + 1)))],z3.1,(z3.2.1 + 4)⟩ [11] (fun z5=>⟨(.ret .none),[(lst (if sLt z2.1.x x2 then (if sLt z2.1.x x1 then [.str z2.1.x z2.1.t,.str x1 t11,.str x2 t12] else [.str x1 t11,.str z2.1.x z2.1.t,.str x2 t12]) else [.str x1 t11,.str x2 t12,.str z2.1.x z2.1.t]) (ec + 2))],[],z5.1,z5.2⟩) fun z5=>.fin (.ok (.again (flA137 aF it))) (lexL P X z2.1.n z2.1.tn z2.1.S z2.1.e z2.1.B z2.1.e1++[(aF,(frm P [(J8,t0,(.ref X.a)),(J5,t1,(.int sz t21)),(J0,t2,(.int 3 t22)),(J4,t3,(.ref l)),(J6,t4,(.ref lb)),(J1,t5,(.int (f + 1) (z3.2.1 + 2))),(J12,t6,(.int i T)),(J2,t7,(.str z2.1.x z2.1.t)),(J18,t8,(.int 0 z3.2.2))] 9)),(it,(RI [(.int (i + 1) 0),(.int (m - 1) 0),(.int 1 0)])),(l,(lst (if sLt z2.1.x x2 then (if sLt z2.1.x x1 then [.str z2.1.x z2.1.t,.str x1 t11,.str x2 t12] else [.str x1 t11,.str z2.1.x z2.1.t,.str x2 t12]) else [.str x1 t11,.str x2 t12,.str z2.1.x z2.1.t]) (ec + 2))),(lb,(lst (sn bs (.str x0 t10)) (e2 + 1)))]) z5.1 z5.2):=fx 5 ⟨⟨()⟩,fun z1=>⟨g0⟩,fun z1 z2=>⟨(0,0,0)⟩,fun z1 z2 z3=>⟨()⟩,fun z1 z2 z3 z4=>⟨(0,0)⟩,fun z1 z2 z3 z4 z5=>trivial⟩ (by kernel_rfl)
theorem r3_1 (G:LZ → Prop) (g0:{z:LZ // G z}) (X:LX) (aF it l lb lw:Addr) (n i sz m f j pl:Int) (S B bs:List Value) (x0 x1 x2 x3 x4:Str) (tn t0 t1 t2 t3 t4 t5 t6 t7 t8 t9 t10 t11 t12 t13 t14 t15 t16 t17 t18 t21 t22:Tok) (e e1 e2 ec:Nat):Sg b P 137 [11,11,10,10,10,1,0,0,0,1,0,0,0,1,0,0,0,0,1,2,0,10,10,0,10,10,0,10,10,10,10,10,10,10,10,13,13,13,13,10,12,12,12,12,10,12,12,12,12,12,13,0,10,10,0] [0,1,1,1,0,0,0,0,0,0,0,1,1] (flA137 aF it) (lexL P X n tn S e B e1++[(aF,(frm P [(J8,t0,(.ref X.a)),(J5,t1,(.int sz t21)),(J0,t2,(.int 3 t22)),(J4,t3,(.ref l)),(J6,t4,(.ref lb)),(J1,t5,(.int f t15)),(J12,t6,(.int j t16)),(J2,t7,(.str x3 t17)),(J18,t8,(.int pl t18))] 9)),(it,(RI [(.int i 0),(.int m 0),(.int 1 0)])),(l,(lst [(.str x0 t10),(.str x1 t11),(.str x2 t12)] ec)),(lb,(lst bs e2))]) N T (.ask Unit ⟨(.builtin "range_iterator.__next__" ⟨[(.ref it)],[]⟩),0,0,[(it,(RI [(.int i 0),(.int m 0),(.int 1 0)]))],N,T⟩ [10] (fun z1=>⟨(.ret (.int i T)),[(RI [(.int (i + 1) 0),(.int (m - 1) 0),(.int 1 0)])],[],N,(T + 1)⟩) fun z1=>.ask {z:LZ // G z} ⟨(.call (.ref 95) ⟨[(.ref X.a)],[]⟩),0,0,(lexL P X n tn S e B e1),N,(T + 2)⟩ [0,1,2,3,4,5,6,7,8] (fun z2=>⟨(.ret (.str z2.1.x z2.1.t)),(lexO P X z2.1.n z2.1.tn z2.1.S z2.1.e z2.1.B z2.1.e1),[],z2.1.N,z2.1.T⟩) fun z2=>.ask (Nat × Nat × Tok) ⟨(.call (.ref 67) ⟨[(.ref l),(.str z2.1.x z2.1.t)],[]⟩),0,0,[(l,(lst [(.str x0 t10),(.str x1 t11),(.str x2 t12)] ec))],z2.1.N,(z2.1.T + 1)⟩ [11] (fun z3=>⟨(.ret (.int 1 z3.2.2)),[(lst [(.str x0 t10),(.str x1 t11),(.str x2 t12)] ec)],[],z3.1,z3.2.1⟩) fun z3=>.ask Unit ⟨(.builtin "list.append" ⟨[(.ref lb),(.str x1 t11)],[]⟩),0,0,[(lb,(lst bs e2))],z3.1,(z3.2.1 + 4)⟩ [12] (fun z4=>⟨(.ret .none),[(lst (sn bs (.str x1 t11)) (e2 + 1))],[],z3.1,(z3.2.1 + 4)⟩) fun z4=>.ask (Nat × Nat) ⟨(.call (.ref 58) ⟨[(.ref l),(.str z2.1.x z2.1.t)],[]⟩),0,0,[(l,(lst [(.str x0 t10),(.str x2 t12)] (ec + 1)))],z3.1,(z3.2.1 + 4)⟩ [11] (fun z5=>⟨(.ret .none),[(lst (if sLt z2.1.x x2 then (if sLt z2.1.x x0 then [.str z2.1.x z2.1.t,.str x0 t10,.str x2 t12] else [.str x0 t10,.str z2.1.x z2.1.t,.str x2 t12]) else [.str x0 t10,.str x2 t12,.str z2.1.x z2.1.t]) (ec + 2))],[],z5.1,z5.2⟩) fun z5=>.fin (.ok (.again (flA137 aF it))) (lexL P X z2.1.n z2.1.tn z2.1.S z2.1.e z2.1.B z2.1.e1++[(aF,(frm P [(J8,t0,(.ref X.a)),(J5,t1,(.int sz t21)),(J0,t2,(.int 3 t22)),(J4,t3,(.ref l)),(J6,t4,(.ref lb)),(J1,t5,(.int (f + 1) (z3.2.1 + 2))),(J12,t6,(.int i T)),(J2,t7,(.str z2.1.x z2.1.t)),(J18,t8,(.int 1 z3.2.2))] 9)),(it,(RI [(.int (i + 1) 0),(.int (m - 1) 0),(.int 1 0)])),(l,(lst (if sLt z2.1.x x2 then (if sLt z2.1.x x0 then [.str z2.1.x z2.1.t,.str x0 t10,.str x2 t12] else [.str x0 t10,.str z2.1.x z2.1.t,.str x2 t12]) else [.str x0 t10,.str x2 t12,.str z2.1.x z2.1.t]) (ec + 2))),(lb,(lst (sn bs (.str x1 t11)) (e2 + 1)))]) z5.1 z5.2):=fx 5 ⟨⟨()⟩,fun z1=>⟨g0⟩,fun z1 z2=>⟨(0,0,0)⟩,fun z1 z2 z3=>⟨()⟩,fun z1 z2 z3 z4=>⟨(0,0)⟩,fun z1 z2 z3 z4 z5=>trivial⟩ (by kernel_rfl)
theorem r3_2 (G:LZ → Prop) (g0:{z:LZ // G z}) (X:LX) (aF it l lb lw:Addr) (n i sz m f j pl:Int) (S B bs:List Value) (x0 x1 x2 x3 x4:Str) (tn t0 t1 t2 t3 t4 t5 t6 t7 t8 t9 t10 t11 t12 t13 t14 t15 t16 t17 t18 t21 t22:Tok) (e e1 e2 ec:Nat):Sg b P 137 [11,11,10,10,10,1,0,0,0,1,0,0,0,1,0,0,0,0,1,2,0,10,10,0,10,10,0,10,10,10,10,10,10,10,10,13,13,13,13,10,12,12,12,12,10,12,12,12,12,12,13,0,10,10,0] [0,1,1,1,0,0,0,0,0,0,0,1,1] (flA137 aF it) (lexL P X n tn S e B e1++[(aF,(frm P [(J8,t0,(.ref X.a)),(J5,t1,(.int sz t21)),(J0,t2,(.int 3 t22)),(J4,t3,(.ref l)),(J6,t4,(.ref lb)),(J1,t5,(.int f t15)),(J12,t6,(.int j t16)),(J2,t7,(.str x3 t17)),(J18,t8,(.int pl t18))] 9)),(it,(RI [(.int i 0),(.int m 0),(.int 1 0)])),(l,(lst [(.str x0 t10),(.str x1 t11),(.str x2 t12)] ec)),(lb,(lst bs e2))]) N T (.ask Unit ⟨(.builtin "range_iterator.__next__" ⟨[(.ref it)],[]⟩),0,0,[(it,(RI [(.int i 0),(.int m 0),(.int 1 0)]))],N,T⟩ [10] (fun z1=>⟨(.ret (.int i T)),[(RI [(.int (i + 1) 0),(.int (m - 1) 0),(.int 1 0)])],[],N,(T + 1)⟩) fun z1=>.ask {z:LZ // G z} ⟨(.call (.ref 95) ⟨[(.ref X.a)],[]⟩),0,0,(lexL P X n tn S e B e1),N,(T + 2)⟩ [0,1,2,3,4,5,6,7,8] (fun z2=>⟨(.ret (.str z2.1.x z2.1.t)),(lexO P X z2.1.n z2.1.tn z2.1.S z2.1.e z2.1.B z2.1.e1),[],z2.1.N,z2.1.T⟩) fun z2=>.ask (Nat × Nat × Tok) ⟨(.call (.ref 67) ⟨[(.ref l),(.str z2.1.x z2.1.t)],[]⟩),0,0,[(l,(lst [(.str x0 t10),(.str x1 t11),(.str x2 t12)] ec))],z2.1.N,(z2.1.T + 1)⟩ [11] (fun z3=>⟨(.ret (.int 2 z3.2.2)),[(lst [(.str x0 t10),(.str x1 t11),(.str x2 t12)] ec)],[],z3.1,z3.2.1⟩) fun z3=>.ask Unit ⟨(.builtin "list.append" ⟨[(.ref lb),(.str x2 t12)],[]⟩),0,0,[(lb,(lst bs e2))],z3.1,(z3.2.1 + 4)⟩ [12] (fun z4=>⟨(.ret .none),[(lst (sn bs (.str x2 t12)) (e2 + 1))],[],z3.1,(z3.2.1 + 4)⟩) fun z4=>.ask (Nat × Nat) ⟨(.call (.ref 58) ⟨[(.ref l),(.str z2.1.x z2.1.t)],[]⟩),0,0,[(l,(lst [(.str x0 t10),(.str x1 t11)] (ec + 1)))],z3.1,(z3.2.1 + 4)⟩ [11] (fun z5=>⟨(.ret .none),[(lst (if sLt z2.1.x x1 then (if sLt z2.1.x x0 then [.str z2.1.x z2.1.t,.str x0 t10,.str x1 t11] else [.str x0 t10,.str z2.1.x z2.1.t,.str x1 t11]) else [.str x0 t10,.str x1 t11,.str z2.1.x z2.1.t]) (ec + 2))],[],z5.1,z5.2⟩) fun z5=>.fin (.ok (.again (flA137 aF it))) (lexL P X z2.1.n z2.1.tn z2.1.S z2.1.e z2.1.B z2.1.e1++[(aF,(frm P [(J8,t0,(.ref X.a)),(J5,t1,(.int sz t21)),(J0,t2,(.int 3 t22)),(J4,t3,(.ref l)),(J6,t4,(.ref lb)),(J1,t5,(.int (f + 1) (z3.2.1 + 2))),(J12,t6,(.int i T)),(J2,t7,(.str z2.1.x z2.1.t)),(J18,t8,(.int 2 z3.2.2))] 9)),(it,(RI [(.int (i + 1) 0),(.int (m - 1) 0),(.int 1 0)])),(l,(lst (if sLt z2.1.x x1 then (if sLt z2.1.x x0 then [.str z2.1.x z2.1.t,.str x0 t10,.str x1 t11] else [.str x0 t10,.str z2.1.x z2.1.t,.str x1 t11]) else [.str x0 t10,.str x1 t11,.str z2.1.x z2.1.t]) (ec + 2))),(lb,(lst (sn bs (.str x2 t12)) (e2 + 1)))]) z5.1 z5.2):=fx 5 ⟨⟨()⟩,fun z1=>⟨g0⟩,fun z1 z2=>⟨(0,0,0)⟩,fun z1 z2 z3=>⟨()⟩,fun z1 z2 z3 z4=>⟨(0,0)⟩,fun z1 z2 z3 z4 z5=>trivial⟩ (by kernel_rfl)
theorem r3_3 (G:LZ → Prop) (g0:{z:LZ // G z}) (X:LX) (aF it l lb lw:Addr) (n i sz m f j pl:Int) (S B bs:List Value) (x0 x1 x2 x3 x4:Str) (tn t0 t1 t2 t3 t4 t5 t6 t7 t8 t9 t10 t11 t12 t13 t14 t15 t16 t17 t18 t21 t22:Tok) (e e1 e2 ec:Nat):Sg b P 131 [11,11,10,10,10,1,0,0,0,1,0,0,0,1,0,0,0,0,1,2,0,10,10,0,10,10,0,10,10,10,10,10,10,10,13,13,13,13,10,12,12,12,12,10,12,12,12,12,12,13,0,10,10,0] [0,1,1,1,0,0,0,0,0,1,1] (flA137 aF it) (lexL P X n tn S e B e1++[(aF,(frm P [(J8,t0,(.ref X.a)),(J5,t1,(.int sz t21)),(J0,t2,(.int 3 t22)),(J4,t3,(.ref l)),(J6,t4,(.ref lb)),(J1,t5,(.int f t15)),(J12,t6,(.int j t16)),(J2,t7,(.str x3 t17)),(J18,t8,(.int pl t18))] 9)),(it,(RI [(.int i 0),(.int m 0),(.int 1 0)])),(l,(lst [(.str x0 t10),(.str x1 t11),(.str x2 t12)] ec)),(lb,(lst bs e2))]) N T (.ask Unit ⟨(.builtin "range_iterator.__next__" ⟨[(.ref it)],[]⟩),0,0,[(it,(RI [(.int i 0),(.int m 0),(.int 1 0)]))],N,T⟩ [10] (fun z1=>⟨(.ret (.int i T)),[(RI [(.int (i + 1) 0),(.int (m - 1) 0),(.int 1 0)])],[],N,(T + 1)⟩) fun z1=>.ask {z:LZ // G z} ⟨(.call (.ref 95) ⟨[(.ref X.a)],[]⟩),0,0,(lexL P X n tn S e B e1),N,(T + 2)⟩ [0,1,2,3,4,5,6,7,8] (fun z2=>⟨(.ret (.str z2.1.x z2.1.t)),(lexO P X z2.1.n z2.1.tn z2.1.S z2.1.e z2.1.B z2.1.e1),[],z2.1.N,z2.1.T⟩) fun z2=>.ask (Nat × Nat × Tok) ⟨(.call (.ref 67) ⟨[(.ref l),(.str z2.1.x z2.1.t)],[]⟩),0,0,[(l,(lst [(.str x0 t10),(.str x1 t11),(.str x2 t12)] ec))],z2.1.N,(z2.1.T + 1)⟩ [11] (fun z3=>⟨(.ret (.int 3 z3.2.2)),[(lst [(.str x0 t10),(.str x1 t11),(.str x2 t12)] ec)],[],z3.1,z3.2.1⟩) fun z3=>.ask Unit ⟨(.builtin "list.append" ⟨[(.ref lb),(.str x0 t10)],[]⟩),0,0,[(lb,(lst bs e2))],z3.1,(z3.2.1 + 3)⟩ [12] (fun z4=>⟨(.ret .none),[(lst (sn bs (.str x0 t10)) (e2 + 1))],[],z3.1,(z3.2.1 + 3)⟩) fun z4=>.ask (Nat × Nat) ⟨(.call (.ref 58) ⟨[(.ref l),(.str z2.1.x z2.1.t)],[]⟩),0,0,[(l,(lst [(.str x1 t11),(.str x2 t12)] (ec + 1)))],z3.1,(z3.2.1 + 3)⟩ [11] (fun z5=>⟨(.ret .none),[(lst (if sLt z2.1.x x2 then (if sLt z2.1.x x1 then [.str z2.1.x z2.1.t,.str x1 t11,.str x2 t12] else [.str x1 t11,.str z2.1.x z2.1.t,.str x2 t12]) else [.str x1 t11,.str x2 t12,.str z2.1.x z2.1.t]) (ec + 2))],[],z5.1,z5.2⟩) fun z5=>.fin (.ok (.again (flA137 aF it))) (lexL P X z2.1.n z2.1.tn z2.1.S z2.1.e z2.1.B z2.1.e1++[(aF,(frm P [(J8,t0,(.ref X.a)),(J5,t1,(.int sz t21)),(J0,t2,(.int 3 t22)),(J4,t3,(.ref l)),(J6,t4,(.ref lb)),(J1,t5,(.int f t15)),(J12,t6,(.int i T)),(J2,t7,(.str z2.1.x z2.1.t)),(J18,t8,(.int 0 (z3.2.1 + 1)))] 9)),(it,(RI [(.int (i + 1) 0),(.int (m - 1) 0),(.int 1 0)])),(l,(lst (if sLt z2.1.x x2 then (if sLt z2.1.x x1 then [.str z2.1.x z2.1.t,.str x1 t11,.str x2 t12] else [.str x1 t11,.str z2.1.x z2.1.t,.str x2 t12]) else [.str x1 t11,.str x2 t12,.str z2.1.x z2.1.t]) (ec + 2))),(lb,(lst (sn bs (.str x0 t10)) (e2 + 1)))]) z5.1 z5.2):=fx 5 ⟨⟨()⟩,fun z1=>⟨g0⟩,fun z1 z2=>⟨(0,0,0)⟩,fun z1 z2 z3=>⟨()⟩,fun z1 z2 z3 z4=>⟨(0,0)⟩,fun z1 z2 z3 z4 z5=>trivial⟩ (by kernel_rfl)
theorem r2z (G:LZ → Prop) (g0:{z:LZ // G z}) (X:LX) (aF it l lb lw:Addr) (n i sz m f j pl:Int) (S B bs:List Value) (x0 x1 x2 x3 x4:Str) (tn t0 t1 t2 t3 t4 t5 t6 t7 t8 t9 t10 t11 t12 t13 t14 t15 t16 t17 t18 t21 t22:Tok) (e e1 e2 ec:Nat):Sg b P 20 [11,11,11,11,11,15] [0,0] (flA137 aF it) (lexL P X n tn S e B e1++[(aF,(frm P [(J8,t0,(.ref X.a)),(J5,t1,(.int sz t21)),(J0,t2,(.int 2 t22)),(J4,t3,(.ref l)),(J6,t4,(.ref lb)),(J1,t5,(.int f t15)),(J12,t6,(.int j t16)),(J2,t7,(.str x3 t17)),(J18,t8,(.int pl t18))] 9)),(it,(RI [(.int i 0),(.int 0 0),(.int 1 0)])),(l,(lst [(.str x0 t10),(.str x1 t11)] ec)),(lb,(lst bs e2))]) N T (.fin (.ok (.again (bl137 aF))) (lexL P X n tn S e B e1++[(aF,(frm P [(J8,t0,(.ref X.a)),(J5,t1,(.int sz t21)),(J0,t2,(.int 2 t22)),(J4,t3,(.ref l)),(J6,t4,(.ref lb)),(J1,t5,(.int f t15)),(J12,t6,(.int j t16)),(J2,t7,(.str x3 t17)),(J18,t8,(.int pl t18))] 9)),(it,(RI [(.int i 0),(.int 0 0),(.int 1 0)])),(l,(lst [(.str x0 t10),(.str x1 t11)] ec)),(lb,(lst bs e2)),(N,(tup [] 0)),((N + 1),(fds "StopIteration" [(.ref N),.none,.none,.none,(.bool false),.none]))]) (N + 2) T):=fx 0 trivial (by kernel_rfl)
theorem r3z (G:LZ → Prop) (g0:{z:LZ // G z}) (X:LX) (aF it l lb lw:Addr) (n i sz m f j pl:Int) (S B bs:List Value) (x0 x1 x2 x3 x4:Str) (tn t0 t1 t2 t3 t4 t5 t6 t7 t8 t9 t10 t11 t12 t13 t14 t15 t16 t17 t18 t21 t22:Tok) (e e1 e2 ec:Nat):Sg b P 20 [11,11,11,11,11,15] [0,0] (flA137 aF it) (lexL P X n tn S e B e1++[(aF,(frm P [(J8,t0,(.ref X.a)),(J5,t1,(.int sz t21)),(J0,t2,(.int 3 t22)),(J4,t3,(.ref l)),(J6,t4,(.ref lb)),(J1,t5,(.int f t15)),(J12,t6,(.int j t16)),(J2,t7,(.str x3 t17)),(J18,t8,(.int pl t18))] 9)),(it,(RI [(.int i 0),(.int 0 0),(.int 1 0)])),(l,(lst [(.str x0 t10),(.str x1 t11),(.str x2 t12)] ec)),(lb,(lst bs e2))]) N T (.fin (.ok (.again (bl137 aF))) (lexL P X n tn S e B e1++[(aF,(frm P [(J8,t0,(.ref X.a)),(J5,t1,(.int sz t21)),(J0,t2,(.int 3 t22)),(J4,t3,(.ref l)),(J6,t4,(.ref lb)),(J1,t5,(.int f t15)),(J12,t6,(.int j t16)),(J2,t7,(.str x3 t17)),(J18,t8,(.int pl t18))] 9)),(it,(RI [(.int i 0),(.int 0 0),(.int 1 0)])),(l,(lst [(.str x0 t10),(.str x1 t11),(.str x2 t12)] ec)),(lb,(lst bs e2)),(N,(tup [] 0)),((N + 1),(fds "StopIteration" [(.ref N),.none,.none,.none,(.bool false),.none]))]) (N + 2) T):=fx 0 trivial (by kernel_rfl)
end
end Mine
end
section
namespace Mine
section
variable {w:World} {C:Cf} {prog:Program}
theorem Rep.sub {S:List Addr} {h₀ h:Heap} {L L':Led} (D:Rep C S h₀ (L++L') h):Rep C S h₀ L h where
  top:=D.top
  has:=fun p hp=>D.has p (List.mem_append_left _ hp)
  nodup:=by
    have:=D.nodup
    rw [List.map_append] at this
    exact (List.nodup_append.mp this).1
  off:=fun p hp=>D.off p (List.mem_append_left _ hp)
  keep:=D.keep
  inS:=fun p hp=>D.inS p (List.mem_append_left _ hp)
  grow:=D.grow
theorem aft_upd2 {s:Shared} {l:Addr} {o o' o'':Obj} {f g:Obj → Obj} {v:Value} {k:Nat} (ho:s.heap.get? l = some o) (e:f o = o') (hf:o'.isFreed = false) (e2:g o' = o'') (hf2:o''.isFreed = false) :
    Aft s { s with heap:=(s.heap.update l f).update l g,toks:=s.toks + k } [(l,o)] ⟨.ret v,[o''],[],s.heap.objs.size,s.toks + k⟩ where
  gens:=rfl
  drawn:=rfl
  os:=rfl
  toks:=rfl
  size:=(Heap.SameBut.update ..).1.trans (Heap.SameBut.update ..).1
  grow:=Nat.le_refl _
  wr:=fun p hp=>by
    have:p = (l,o''):=by simpa using hp
    rw [this]
    have h1:=Heap.get?_update_self f ho (by rw [e]; exact hf)
    rw [e] at h1
    have h2:=Heap.get?_update_self g h1 (by rw [e2]; exact hf2)
    rw [e2] at h2; exact h2
  nw:=fun p hp=>by cases hp
  nd:=List.nodup_nil
  keep:=fun b x hb n=>by
    have:l ≠ b:=fun h=>n (by rw [h]; exact .head _)
    rw [Heap.get?_update_other _ _ this,Heap.get?_update_other _ _ this]; exact hb
theorem entry_rng:entryFor table "range_iterator.__next__" = some Builtin.«range_iterator.__next__»:=entryFor_of_tree (by kernel_rfl)
theorem plain_rng:plainId "range_iterator.__next__" = true:=by decide +kernel
theorem conRng {d u:Nat} {it:Addr} {i m:Int} {N T:Nat} (hm:¬ m ≤ 0) :
    Con prog w C d u (.builtin "range_iterator.__next__" ⟨[.ref it],[]⟩) [(it,fds "range_iterator" [.int i 0,.int m 0,.int 1 0])] N T
      (fun _:Unit=>⟨.ret (.int i T),[fds "range_iterator" [.int (i + 1) 0,.int (m - 1) 0,.int 1 0]],[],N,T + 1⟩):=by
  refine con_meets entry_rng plain_rng (AutoRange.range_iterator___next___range_iterator_1 it i m 1 hm) ?_
  intro A s hz hh nd hN hT
  have ho:=hh _ (.head _)
  refine ⟨ho,(),?_,?_⟩
  · subst hT; rfl
  subst hN hT
  exact aft_upd2 ho rfl rfl rfl rfl
end
structure LS where
  n:Int
  tn:Tok
  S:List Value
  e:Nat
  B:List Value
  e1:Nat
noncomputable def LZ.ls (z:LZ):LS:=⟨z.n,z.tn,z.S,z.e,z.B,z.e1⟩
noncomputable def Yields (w:World) (b:Bool) (X:LX) (F:LS → Prop):List Str → LS → Prop
  | [],s=>F s
  | x :: ws,s=>∀ N T,∃ G:LZ → Prop,Nonempty {z:LZ // G z} ∧
      CG w b 560 5600 (.call (.ref 95) ⟨[.ref X.a],[]⟩) (lexL w.params X s.n s.tn s.S s.e s.B s.e1) N T
        (fun z2:{z:LZ // G z}=>⟨.ret (.str z2.1.x z2.1.t),lexO w.params X z2.1.n z2.1.tn z2.1.S z2.1.e z2.1.B z2.1.e1,[],z2.1.N,z2.1.T⟩) ∧
      ∀ z,G z → z.x = x ∧ Yields w b X F ws z.ls
section
variable {w:World} {b:Bool} (O:(cfg b w.params).Ok PG w)
include O
theorem yields_back {X:LX} {F:LS → Prop} {n:Int} {tn:Tok} {S:List Value} {e:Nat} {ws:List Str}:∀ (B:List (Str × Tok)) (e1:Nat),B.length ≤ 14 →
    (∀ e1',Yields w b X F ws ⟨n,tn,S,e,[],e1'⟩) → Yields w b X F (B.map (·.1)++ws) ⟨n,tn,S,e,B.map fun p=>.str p.1 p.2,e1⟩
  | [],e1,_,h=>h e1
  | (x,t) :: B,e1,hl,h=>by
    intro N T
    refine ⟨fun z=>z.x = x ∧ z.ls = ⟨n,tn,S,e,B.map fun p=>.str p.1 p.2,e1 + 1⟩,⟨⟨⟨0,0,n,tn,S,e,B.map fun p=>.str p.1 p.2,e1 + 1,x,t⟩,rfl,rfl⟩⟩,?_,?_⟩
    · refine (con_gtP O (B:=B.map fun p=>.str p.1 p.2) (x:=x) (t:=t) (by simp at hl ⊢; omega)).conv ?_
      intro z
      exact ⟨⟨⟨z.1,z.2,n,tn,S,e,B.map fun p=>.str p.1 p.2,e1 + 1,x,t⟩,rfl,rfl⟩,rfl⟩
    · rintro z ⟨hx,hz⟩
      refine ⟨hx,?_⟩
      rw [hz]
      exact yields_back B (e1 + 1) (by simp at hl; omega) h
theorem yields_end {X:LX} {F:LS → Prop} {n:Int} {tn:Tok} {e e1:Nat} (hX:codeHas (fds "code" X.cvs) qLam = true) (h:F ⟨n,tn,[],e,[],e1⟩):∀ k:Nat,Yields w b X F (List.replicate k (sg [])) ⟨n,tn,[],e,[],e1⟩
  | 0=>h
  | k + 1=>by
    intro N T
    refine ⟨fun z=>z.x = sg [] ∧ z.ls = ⟨n,tn,[],e,[],e1⟩,⟨⟨⟨0,0,n,tn,[],e,[],e1,sg [],0⟩,rfl,rfl⟩⟩,?_,?_⟩
    · refine (con_gtE O hX).conv ?_
      intro z
      exact ⟨⟨⟨z.1,z.2.1,n,tn,[],e,[],e1,sg [],z.2.2⟩,rfl,rfl⟩,rfl⟩
    · rintro z ⟨hx,hz⟩
      refine ⟨hx,?_⟩
      rw [hz]
      exact yields_end hX h k
end
end Mine
end
section
namespace Mine
structure Wd where
  k:Nat
  bare:Bool
  t1:Tok
  t2:Tok
  t3:Tok
  t4:Tok
noncomputable def chW (k:Nat) (bare:Bool) (t1 t2 t3 t4:Tok) (R:List Value):List Value:=match k with
  | 0=>(sn (sn R (.str (sg [34]) t2)) (.str (sg [34]) t1))
  | 1=>if bare then (sn (sn (sn R (.str (sg [32]) t3)) (.str (sg [10]) t2)) (.str (sg [92]) t1)) else (sn (sn (sn R (.str (sg [34]) t3)) (.str (sg [10]) t2)) (.str (sg [34]) t1))
  | 2=>if bare then (sn (sn (sn R (.str (sg [32]) t3)) (.str (sg [34]) t2)) (.str (sg [92]) t1)) else (sn (sn (sn (sn R (.str (sg [34]) t4)) (.str (sg [34]) t3)) (.str (sg [92]) t2)) (.str (sg [34]) t1))
  | 3=>if bare then (sn (sn (sn R (.str (sg [32]) t3)) (.str (sg [92]) t2)) (.str (sg [92]) t1)) else (sn (sn (sn (sn R (.str (sg [34]) t4)) (.str (sg [92]) t3)) (.str (sg [92]) t2)) (.str (sg [34]) t1))
  | 4=>if bare then (sn (sn (sn R (.str (sg [32]) t3)) (.str (sg [97]) t2)) (.str (sg [92]) t1)) else (sn (sn (sn R (.str (sg [34]) t3)) (.str (sg [97]) t2)) (.str (sg [34]) t1))
  | _=>R
noncomputable def txW:List Wd → List Value
  | []=>[]
  | x :: ws=>chW x.k x.bare x.t1 x.t2 x.t3 x.t4 (txW ws)
theorem txW_len:∀ ws:List Wd,(txW ws).length ≤ 4 * ws.length
  | []=>Nat.le_refl _
  | x :: ws=>by
    have:=txW_len ws
    have h:(chW x.k x.bare x.t1 x.t2 x.t3 x.t4 (txW ws)).length ≤ (txW ws).length + 4:=by
      unfold chW
      split <;> (try split) <;> simp [sn]
    show (chW x.k x.bare x.t1 x.t2 x.t3 x.t4 (txW ws)).length ≤ _
    simp only [List.length_cons]
    omega
noncomputable def nlW (ws:List Wd):Int:=ws.foldr (fun x r=>(if x.k = 1 then 1 else 0) + r) 0
section
variable {w:World} {b:Bool} (O:(cfg b w.params).Ok PG w)
include O
theorem yst {X:LX} {F:LS → Prop} {x:Str} {n n':Int} {tn:Tok} {S R:List Value} {e e' e1:Nat} {ws:List Str} {tf:Nat × Nat × Tok × Tok → Tok} (hc:∀ N T,CG w b 560 5600 (.call (.ref 95) ⟨[.ref X.a],[]⟩) (lexL w.params X n tn S e [] e1) N T (fun z:Nat × Nat × Tok × Tok=>⟨.ret (.str x z.2.2.1),lexO w.params X n' (tf z) R e' [] e1,[],z.1,z.2.1⟩)) (hy:∀ tn' e',Yields w b X F ws ⟨n',tn',R,e',[],e1⟩):Yields w b X F (x :: ws) ⟨n,tn,S,e,[],e1⟩:=by
  intro N T
  refine ⟨fun z=>z.x = x ∧ z.n = n' ∧ z.S = R ∧ z.B = [] ∧ z.e1 = e1,⟨⟨⟨0,0,n',tn,R,0,[],e1,x,0⟩,rfl,rfl,rfl,rfl,rfl⟩⟩,(hc N T).conv fun z=>⟨⟨⟨z.1,z.2.1,n',tf z,R,e',[],e1,x,z.2.2.1⟩,rfl,rfl,rfl,rfl,rfl⟩,rfl⟩,?_⟩
  rintro z ⟨hx,h1,h2,h3,h4⟩
  refine ⟨hx,?_⟩
  show Yields w b X F _ ⟨z.n,z.tn,z.S,z.e,z.B,z.e1⟩
  rw [h1,h2,h3,h4]
  exact hy _ _
omit O in
theorem nlW0 {k:Nat} {c:Bool} {t1 t2 t3 t4:Tok} {ws:List Wd} (h:k ≠ 1):nlW (⟨k,c,t1,t2,t3,t4⟩ :: ws) = nlW ws:=by
  show (if k = 1 then 1 else 0) + nlW ws = _
  rw [if_neg h,Int.zero_add]
omit O in
theorem nlW1 {c:Bool} {t1 t2 t3 t4:Tok} {ws:List Wd} {n:Int}:n + nlW (⟨1,c,t1,t2,t3,t4⟩ :: ws) = n + 1 + nlW ws:=(Int.add_assoc n 1 (nlW ws)).symm
theorem yields_text {X:LX} {F:LS → Prop} {e1:Nat} {more:List Str} (hX:codeHas (fds "code" X.cvs) qLam = true):∀ (ws:List Wd) (n:Int) (tn:Tok) (e:Nat),ws.length ≤ 100 → (∀ x ∈ ws,x.k < 5) →
    (∀ tn' e',Yields w b X F more ⟨n + nlW ws,tn',[],e',[],e1⟩) → Yields w b X F (ws.map (fun x=>bx x.k)++more) ⟨n,tn,txW ws,e,[],e1⟩
  | [],n,tn,e,_,_,h=>by have:=h tn e; simpa [nlW,txW] using this
  | ⟨k,bare,t1,t2,t3,t4⟩ :: ws,n,tn,e,hl,hk,h=>by
    have hlen:=txW_len ws
    have hR:(txW ws).length < 900:=by simp at hl; omega
    have hl':ws.length ≤ 100:=by simp at hl; omega
    have hk':∀ x ∈ ws,x.k < 5:=fun x hx=>hk x (.tail _ hx)
    have h0:k < 5:=hk _ (.head _)
    have hc:=(by decide:∀ m,m < 5 → m = 0 ∨ m = 1 ∨ m = 2 ∨ m = 3 ∨ m = 4) k h0
    rcases hc with rfl | rfl | rfl | rfl | rfl
    · exact yst O (tf:=fun _=>tn) (fun N T=>con_gtQ0 (R:=txW ws) O hX hR) fun _ _=>yields_text hX ws _ _ _ hl' hk' fun tn' e'=>by have q:=h tn' e'; rw [nlW0 (by decide)] at q; exact q
    · cases bare with
      | false=>exact yst O (tf:=fun z=>z.2.2.2) (fun N T=>con_gtQ1 (R:=txW ws) O hX hR) fun _ _=>yields_text hX ws _ _ _ hl' hk' fun tn' e'=>by have q:=h tn' e'; rw [nlW1] at q; exact q
      | true=>exact yst O (tf:=fun z=>z.2.2.2) (fun N T=>con_gtB1 (R:=txW ws) O hX hR) fun _ _=>yields_text hX ws _ _ _ hl' hk' fun tn' e'=>by have q:=h tn' e'; rw [nlW1] at q; exact q
    · cases bare with
      | false=>exact yst O (tf:=fun _=>tn) (fun N T=>con_gtQ2 (R:=txW ws) O hX hR) fun _ _=>yields_text hX ws _ _ _ hl' hk' fun tn' e'=>by have q:=h tn' e'; rw [nlW0 (by decide)] at q; exact q
      | true=>exact yst O (tf:=fun _=>tn) (fun N T=>con_gtB2 (R:=txW ws) O hX hR) fun _ _=>yields_text hX ws _ _ _ hl' hk' fun tn' e'=>by have q:=h tn' e'; rw [nlW0 (by decide)] at q; exact q
    · cases bare with
      | false=>exact yst O (tf:=fun _=>tn) (fun N T=>con_gtQ3 (R:=txW ws) O hX hR) fun _ _=>yields_text hX ws _ _ _ hl' hk' fun tn' e'=>by have q:=h tn' e'; rw [nlW0 (by decide)] at q; exact q
      | true=>exact yst O (tf:=fun _=>tn) (fun N T=>con_gtB3 (R:=txW ws) O hX hR) fun _ _=>yields_text hX ws _ _ _ hl' hk' fun tn' e'=>by have q:=h tn' e'; rw [nlW0 (by decide)] at q; exact q
    · cases bare with
      | false=>exact yst O (tf:=fun _=>tn) (fun N T=>con_gtQ4 (R:=txW ws) O hX hR) fun _ _=>yields_text hX ws _ _ _ hl' hk' fun tn' e'=>by have q:=h tn' e'; rw [nlW0 (by decide)] at q; exact q
      | true=>exact yst O (tf:=fun _=>tn) (fun N T=>con_gtB4 (R:=txW ws) O hX hR) fun _ _=>yields_text hX ws _ _ _ hl' hk' fun tn' e'=>by have q:=h tn' e'; rw [nlW0 (by decide)] at q; exact q
end
end Mine
end
section
namespace Mine
section
variable (b:Bool) (P:Params) (N T:Nat)
theorem sd1 (aF l:Addr) (x0 x1:Str) (t0 t1 t2 t3 t4 t10 t11:Tok) (e:Nat):Sg b P 57 [2,2,1,1,1,1,1,2,2,2,2,2,2,2,1,1,1,1,1,1] [0,0,0,0,0,0,0] (cd42 aF) [(l,(lst [(.str x0 t10)] e)),(aF,(frm P [(J19,t0,(.ref l)),(J29,t1,(.int 0 t3)),(J43,t2,(.int 0 t4))] 3))] N T (.fin (.ok (.done (.ret .none))) [(l,(lst [(.str x0 t10)] e)),(aF,(frm P [(J19,t0,(.ref l)),(J29,t1,(.int 0 t3)),(J43,t2,(.int 0 t4)),(J46,T,(.str x0 t10))] 4))] N (T + 1)):=fx 0 trivial (by kernel_rfl)
theorem sd2t (aF l:Addr) (x0 x1:Str) (t0 t1 t2 t3 t4 t10 t11:Tok) (e:Nat):Sg b P 148 [2,2,1,1,1,1,1,2,2,2,2,2,2,2,2,2,1,1,1,1,1,2,2,2,2,2,2,2,1,1,1,1,1,1,2,2,2,2,2,2,2,2,1,1,1,1,1,1] [0,0,0,0,0,0,0,0,0,0,0,0,1,0,0,0,0,0,0,0] (cd42 aF) [(l,(lst [(.str x0 t10),(.str x1 t11)] e)),(aF,(frm P [(J19,t0,(.ref l)),(J29,t1,(.int 0 t3)),(J43,t2,(.int 1 t4))] 3))] N T (.ask Unit ⟨(.builtin "str.__lt__" ⟨[(.str x1 t11),(.str x0 t10)],[]⟩),1,3,[],N,(T + 7)⟩ [] (fun z1=>⟨(.ret (.bool true)),[],[],N,(T + 7)⟩) fun z1=>.fin (.ok (.done (.ret .none))) [(l,(lst [(.str x1 t11),(.str x0 t10)] e)),(aF,(frm P [(J19,t0,(.ref l)),(J29,t1,(.int 0 t3)),(J43,t2,(.int 0 (T + 4))),(J46,T,(.str x1 t11)),(J56,(T + 5),(.int 0 (T + 4))),((sg [112,97,114,101,110,116]),(T + 6),(.str x0 t10))] 6))] N (T + 8)):=fx 1 ⟨⟨()⟩,fun z1=>trivial⟩ (by kernel_rfl)
theorem sd2f (aF l:Addr) (x0 x1:Str) (t0 t1 t2 t3 t4 t10 t11:Tok) (e:Nat):Sg b P 111 [2,2,1,1,1,1,1,2,2,2,2,2,2,2,2,2,1,1,1,1,1,2,2,2,2,2,2,2,1,1,1,1,1,1] [0,0,0,0,0,0,0,0,0,0,0,0,1,0,0] (cd42 aF) [(l,(lst [(.str x0 t10),(.str x1 t11)] e)),(aF,(frm P [(J19,t0,(.ref l)),(J29,t1,(.int 0 t3)),(J43,t2,(.int 1 t4))] 3))] N T (.ask Unit ⟨(.builtin "str.__lt__" ⟨[(.str x1 t11),(.str x0 t10)],[]⟩),1,3,[],N,(T + 7)⟩ [] (fun z1=>⟨(.ret (.bool false)),[],[],N,(T + 7)⟩) fun z1=>.fin (.ok (.done (.ret .none))) [(l,(lst [(.str x0 t10),(.str x1 t11)] e)),(aF,(frm P [(J19,t0,(.ref l)),(J29,t1,(.int 0 t3)),(J43,t2,(.int 1 t4)),(J46,T,(.str x1 t11)),(J56,(T + 5),(.int 0 (T + 4))),((sg [112,97,114,101,110,116]),(T + 6),(.str x0 t10))] 6))] N (T + 7)):=fx 1 ⟨⟨()⟩,fun z1=>trivial⟩ (by kernel_rfl)
end
section
variable {w:World} {b:Bool} (O:(cfg b w.params).Ok PG w)
include O
theorem con_sd1 {N T:Nat} {l:Addr} {x:Str} {t s0 s1:Tok} {e:Nat} :
    CG w b 600 6000 (.call (.ref 42) ⟨[.ref l,.int 0 s0,.int 0 s1],[]⟩) [(l,lst [.str x t] e)] N T
      (fun z:Nat × Nat=>⟨.ret .none,[lst [.str x t] e],[],z.1,z.2⟩):=by
  refine con_fn O (fn42 b w.params) (by decide) (ent42 b w.params N T (.ref l) (.int 0 s0) (.int 0 s1)) ?_
  intro A s h hz hA hu hN D hN1
  refine code_run O hz (sd1 b w.params _ _ N l x x _ _ _ s0 s1 t t e) D hN1 ?_
  intro h' D' hN'
  exact ⟨(_,_),rfl,aft_plain (q:=⟨.ret .none,[lst [.str x t] e],[],_,_⟩) D' rfl hN' rfl⟩
theorem con_sd2 {N T:Nat} {l:Addr} {x y:Str} {t u s0 s1:Tok} {e:Nat} :
    CG w b 600 6000 (.call (.ref 42) ⟨[.ref l,.int 0 s0,.int 1 s1],[]⟩) [(l,lst [.str x t,.str y u] e)] N T
      (fun z:Nat × Nat=>⟨.ret .none,[lst (if sLt y x then [.str y u,.str x t] else [.str x t,.str y u]) e],[],z.1,z.2⟩):=by
  refine con_fn O (fn42 b w.params) (by decide) (ent42 b w.params N T (.ref l) (.int 0 s0) (.int 1 s1)) ?_
  intro A s h hz hA hu hN D hN1
  cases hc:sLt y x with
  | true=>
    refine code_run O hz (sd2t b w.params _ _ N l x y _ _ _ s0 s1 t u e) D hN1 (HHx 1 ⟨⟨by decide,conLt O hc⟩,fun _=>trivial,fun z=>?_⟩)
    intro h' D' hN'
    exact ⟨(_,_),rfl,aft_plain (q:=⟨.ret .none,[lst [.str y u,.str x t] e],[],_,_⟩) D' rfl hN' rfl⟩
  | false=>
    refine code_run O hz (sd2f b w.params _ _ N l x y _ _ _ s0 s1 t u e) D hN1 (HHx 1 ⟨⟨by decide,conLt O hc⟩,fun _=>trivial,fun z=>?_⟩)
    intro h' D' hN'
    exact ⟨(_,_),rfl,aft_plain (q:=⟨.ret .none,[lst [.str x t,.str y u] e],[],_,_⟩) D' rfl hN' rfl⟩
end
end Mine
end
section
namespace Mine
section
variable (b:Bool) (P:Params) (N T:Nat)
theorem su1 (aF l:Addr) (x0 x1 x2:Str) (t0 t1 t2 t3 t4 t10 t11 t12:Tok) (e:Nat):Sg b P 129 [0,0,2,1,1,1,2,2,2,2,2,2,2,1,1,1,1,1,2,2,2,2,2,2,2,2,2,2,1,1,1,1,1,1,0,2,2,2,0] [0,0,0,0,0,0,0,0,0,0,0,0,0,0,0,1] (cd49 aF) [(l,(lst [(.str x0 t10)] e)),(aF,(frm P [(J19,t0,(.ref l)),(J43,t1,(.int 0 t3))] 2))] N T (.ask (Nat × Nat) ⟨(.call (.ref 42) ⟨[(.ref l),(.int 0 t3),(.int 0 t3)],[]⟩),1,3,[(l,(lst [(.str x0 t10)] e))],N,(T + 10)⟩ [0] (fun z1=>⟨(.ret .none),[(lst [(.str x0 t10)] e)],[],z1.1,z1.2⟩) fun z1=>.fin (.ok (.done (.ret .none))) [(l,(lst [(.str x0 t10)] e)),(aF,(frm P [(J19,t0,(.ref l)),(J43,t1,(.int 0 t3)),((sg [101,110,100,112,111,115]),(T + 2),(.int 1 (T + 1))),(J29,(T + 3),(.int 0 t3)),(J46,(T + 4),(.str x0 t10)),(J57,(T + 9),(.int 1 (T + 8)))] 6))] z1.1 z1.2):=fx 1 ⟨⟨(0,0)⟩,fun z1=>trivial⟩ (by kernel_rfl)
theorem su2 (aF l:Addr) (x0 x1 x2:Str) (t0 t1 t2 t3 t4 t10 t11 t12:Tok) (e:Nat):Sg b P 225 [0,0,2,1,1,1,2,2,2,2,2,2,2,1,1,1,1,1,2,2,2,2,2,2,2,2,2,2,2,2,2,2,1,1,1,1,1,2,2,1,1,1,1,1,1,2,2,2,2,2,2,2,2,2,2,2,1,1,1,1,1,1,0,2,2,2,0] [0,0,0,0,0,0,0,0,0,0,0,0,0,0,0,0,0,0,0,0,0,0,0,0,0,0,0,0,0,0,1] (cd49 aF) [(l,(lst [(.str x0 t10),(.str x1 t11)] e)),(aF,(frm P [(J19,t0,(.ref l)),(J43,t1,(.int 0 t3))] 2))] N T (.ask (Nat × Nat) ⟨(.call (.ref 42) ⟨[(.ref l),(.int 0 t3),(.int 1 (T + 8))],[]⟩),1,3,[(l,(lst [(.str x1 t11),(.str x0 t10)] e))],N,(T + 19)⟩ [0] (fun z1=>⟨(.ret .none),[(lst (if sLt x0 x1 then [.str x0 t10,.str x1 t11] else [.str x1 t11,.str x0 t10]) e)],[],z1.1,z1.2⟩) fun z1=>.fin (.ok (.done (.ret .none))) [(l,(lst (if sLt x0 x1 then [.str x0 t10,.str x1 t11] else [.str x1 t11,.str x0 t10]) e)),(aF,(frm P [(J19,t0,(.ref l)),(J43,t1,(.int 1 (T + 8))),((sg [101,110,100,112,111,115]),(T + 2),(.int 2 (T + 1))),(J29,(T + 3),(.int 0 t3)),(J46,(T + 4),(.str x0 t10)),(J57,(T + 9),(.int 3 (T + 17))),((sg [114,105,103,104,116,112,111,115]),(T + 12),(.int 2 (T + 11)))] 7))] z1.1 z1.2):=fx 1 ⟨⟨(0,0)⟩,fun z1=>trivial⟩ (by kernel_rfl)
theorem push0 (aF l:Addr) (x0 x1 x2:Str) (t0 t1 t2 t3 t4 t10 t11 t12:Tok) (e:Nat):Sg b P 62 [2,1,1,1,1,2,1,1,1,1,0,2,0,0,2,1,1,1,0] [0,0,0,0,0,0,0,0,1] (cd21 aF) [(l,(lst [] e)),(aF,(frm P [(J19,t0,(.ref l)),(J41,t1,(.str x2 t12))] 2))] N T (.ask (Nat × Nat) ⟨(.call (.ref 42) ⟨[(.ref l),(.int 0 T),(.int 0 (T + 4))],[]⟩),1,3,[(l,(lst [(.str x2 t12)] (e + 1)))],N,(T + 5)⟩ [0] (fun z1=>⟨(.ret .none),[(lst [(.str x2 t12)] (e + 1))],[],z1.1,z1.2⟩) fun z1=>.fin (.ok (.done (.ret .none))) [(l,(lst [(.str x2 t12)] (e + 1))),(aF,(frm P [(J19,t0,(.ref l)),(J41,t1,(.str x2 t12))] 2))] z1.1 z1.2):=fx 1 ⟨⟨(0,0)⟩,fun z1=>trivial⟩ (by kernel_rfl)
theorem push1 (aF l:Addr) (x0 x1 x2:Str) (t0 t1 t2 t3 t4 t10 t11 t12:Tok) (e:Nat):Sg b P 62 [2,1,1,1,1,2,1,1,1,1,0,2,0,0,2,1,1,1,0] [0,0,0,0,0,0,0,0,1] (cd21 aF) [(l,(lst [(.str x0 t10)] e)),(aF,(frm P [(J19,t0,(.ref l)),(J41,t1,(.str x2 t12))] 2))] N T (.ask (Nat × Nat) ⟨(.call (.ref 42) ⟨[(.ref l),(.int 0 T),(.int 1 (T + 4))],[]⟩),1,3,[(l,(lst [(.str x0 t10),(.str x2 t12)] (e + 1)))],N,(T + 5)⟩ [0] (fun z1=>⟨(.ret .none),[(lst (if sLt x2 x0 then [.str x2 t12,.str x0 t10] else [.str x0 t10,.str x2 t12]) (e + 1))],[],z1.1,z1.2⟩) fun z1=>.fin (.ok (.done (.ret .none))) [(l,(lst (if sLt x2 x0 then [.str x2 t12,.str x0 t10] else [.str x0 t10,.str x2 t12]) (e + 1))),(aF,(frm P [(J19,t0,(.ref l)),(J41,t1,(.str x2 t12))] 2))] z1.1 z1.2):=fx 1 ⟨⟨(0,0)⟩,fun z1=>trivial⟩ (by kernel_rfl)
theorem pop1 (aF l:Addr) (x0 x1 x2:Str) (t0 t1 t2 t3 t4 t10 t11 t12:Tok) (e:Nat):Sg b P 53 [2,1,1,1,1,1,1,1,1,1,2,2,2,1,1,1,1,1,2] [0,0,0,0,0] (cd28 aF) [(l,(lst [(.str x0 t10)] e)),(aF,(frm P [(J19,t0,(.ref l))] 1))] N T (.fin (.ok (.done (.ret (.str x0 t10)))) [(l,(lst [] (e + 1))),(aF,(frm P [(J19,t0,(.ref l)),(J59,T,(.str x0 t10))] 2))] N (T + 3)):=fx 0 trivial (by kernel_rfl)
theorem pop2 (aF l:Addr) (x0 x1 x2:Str) (t0 t1 t2 t3 t4 t10 t11 t12:Tok) (e:Nat):Sg b P 99 [2,1,1,1,1,1,1,1,1,1,2,2,2,1,1,1,1,1,2,1,1,1,1,1,2,2,2,2,1,1,1,1,1,1,0,2,0,2] [0,0,0,0,0,0,0,0,0,1] (cd28 aF) [(l,(lst [(.str x0 t10),(.str x1 t11)] e)),(aF,(frm P [(J19,t0,(.ref l))] 1))] N T (.ask (Nat × Nat) ⟨(.call (.ref 49) ⟨[(.ref l),(.int 0 (T + 6))],[]⟩),1,3,[(l,(lst [(.str x1 t11)] (e + 1)))],N,(T + 7)⟩ [0] (fun z1=>⟨(.ret .none),[(lst [(.str x1 t11)] (e + 1))],[],z1.1,z1.2⟩) fun z1=>.fin (.ok (.done (.ret (.str x0 t10)))) [(l,(lst [(.str x1 t11)] (e + 1))),(aF,(frm P [(J19,t0,(.ref l)),(J59,T,(.str x1 t11)),(J52,(T + 4),(.str x0 t10))] 3))] z1.1 z1.2):=fx 1 ⟨⟨(0,0)⟩,fun z1=>trivial⟩ (by kernel_rfl)
theorem rep1 (aF l:Addr) (x0 x1 x2:Str) (t0 t1 t2 t3 t4 t10 t11 t12:Tok) (e:Nat):Sg b P 56 [2,1,1,1,1,1,2,2,2,2,1,1,1,1,1,1,0,2,0,2] [0,0,0,0,1] (cd35 aF) [(l,(lst [(.str x0 t10)] e)),(aF,(frm P [(J19,t0,(.ref l)),(J41,t1,(.str x2 t12))] 2))] N T (.ask (Nat × Nat) ⟨(.call (.ref 49) ⟨[(.ref l),(.int 0 (T + 3))],[]⟩),1,3,[(l,(lst [(.str x2 t12)] e))],N,(T + 4)⟩ [0] (fun z1=>⟨(.ret .none),[(lst [(.str x2 t12)] e)],[],z1.1,z1.2⟩) fun z1=>.fin (.ok (.done (.ret (.str x0 t10)))) [(l,(lst [(.str x2 t12)] e)),(aF,(frm P [(J19,t0,(.ref l)),(J41,t1,(.str x2 t12)),(J52,(T + 1),(.str x0 t10))] 3))] z1.1 z1.2):=fx 1 ⟨⟨(0,0)⟩,fun z1=>trivial⟩ (by kernel_rfl)
theorem rep2 (aF l:Addr) (x0 x1 x2:Str) (t0 t1 t2 t3 t4 t10 t11 t12:Tok) (e:Nat):Sg b P 56 [2,1,1,1,1,1,2,2,2,2,1,1,1,1,1,1,0,2,0,2] [0,0,0,0,1] (cd35 aF) [(l,(lst [(.str x0 t10),(.str x1 t11)] e)),(aF,(frm P [(J19,t0,(.ref l)),(J41,t1,(.str x2 t12))] 2))] N T (.ask (Nat × Nat) ⟨(.call (.ref 49) ⟨[(.ref l),(.int 0 (T + 3))],[]⟩),1,3,[(l,(lst [(.str x2 t12),(.str x1 t11)] e))],N,(T + 4)⟩ [0] (fun z1=>⟨(.ret .none),[(lst (if sLt x2 x1 then [.str x2 t12,.str x1 t11] else [.str x1 t11,.str x2 t12]) e)],[],z1.1,z1.2⟩) fun z1=>.fin (.ok (.done (.ret (.str x0 t10)))) [(l,(lst (if sLt x2 x1 then [.str x2 t12,.str x1 t11] else [.str x1 t11,.str x2 t12]) e)),(aF,(frm P [(J19,t0,(.ref l)),(J41,t1,(.str x2 t12)),(J52,(T + 1),(.str x0 t10))] 3))] z1.1 z1.2):=fx 1 ⟨⟨(0,0)⟩,fun z1=>trivial⟩ (by kernel_rfl)
end
section
variable {w:World} {b:Bool} (O:(cfg b w.params).Ok PG w)
include O
theorem con_su1 {N T:Nat} {l:Addr} {x:Str} {t s0:Tok} {e:Nat} :
    CG w b 590 5900 (.call (.ref 49) ⟨[.ref l,.int 0 s0],[]⟩) [(l,lst [.str x t] e)] N T
      (fun z:Nat × Nat=>⟨.ret .none,[lst [.str x t] e],[],z.1,z.2⟩):=by
  refine con_fn O (fn49 b w.params) (by decide) (ent49 b w.params N T (.ref l) (.int 0 s0)) ?_
  intro A s h hz hA hu hN D hN1
  refine code_run O hz (su1 b w.params _ _ N l x x x _ _ 0 s0 0 t t t e) D hN1 (HHx 1 ⟨⟨by decide,(con_sd1 O).mono (by show A.depth + 1 ≤ 600; omega) (by show A.units + 3 ≤ 6000; omega)⟩,fun _=>trivial,fun z=>?_⟩)
  intro h' D' hN'
  exact ⟨(_,_),rfl,aft_plain (q:=⟨.ret .none,[lst [.str x t] e],[],_,_⟩) D' rfl hN' rfl⟩
theorem con_su2 {N T:Nat} {l:Addr} {x y:Str} {t u s0:Tok} {e:Nat} :
    CG w b 590 5900 (.call (.ref 49) ⟨[.ref l,.int 0 s0],[]⟩) [(l,lst [.str x t,.str y u] e)] N T
      (fun z:Nat × Nat=>⟨.ret .none,[lst (if sLt x y then [.str x t,.str y u] else [.str y u,.str x t]) e],[],z.1,z.2⟩):=by
  refine con_fn O (fn49 b w.params) (by decide) (ent49 b w.params N T (.ref l) (.int 0 s0)) ?_
  intro A s h hz hA hu hN D hN1
  refine code_run O hz (su2 b w.params _ _ N l x y x _ _ 0 s0 0 t u t e) D hN1 (HHx 1 ⟨⟨by decide,(con_sd2 O).mono (by show A.depth + 1 ≤ 600; omega) (by show A.units + 3 ≤ 6000; omega)⟩,fun _=>trivial,fun z=>?_⟩)
  intro h' D' hN'
  exact ⟨(_,_),rfl,aft_plain (q:=⟨.ret .none,[lst (if sLt x y then [.str x t,.str y u] else [.str y u,.str x t]) e],[],_,_⟩) D' rfl hN' rfl⟩
theorem con_push0 {N T:Nat} {l:Addr} {x:Str} {t:Tok} {e:Nat} :
    CG w b 580 5800 (.call (.ref 21) ⟨[.ref l,.str x t],[]⟩) [(l,lst [] e)] N T
      (fun z:Nat × Nat=>⟨.ret .none,[lst [.str x t] (e + 1)],[],z.1,z.2⟩):=by
  refine con_fn O (fn21 b w.params) (by decide) (ent21 b w.params N T (.ref l) (.str x t)) ?_
  intro A s h hz hA hu hN D hN1
  refine code_run O hz (push0 b w.params _ _ N l x x x _ _ 0 0 0 t t t e) D hN1 (HHx 1 ⟨⟨by decide,(con_sd1 O).mono (by show A.depth + 1 ≤ 600; omega) (by show A.units + 3 ≤ 6000; omega)⟩,fun _=>trivial,fun z=>?_⟩)
  intro h' D' hN'
  exact ⟨(_,_),rfl,aft_plain (q:=⟨.ret .none,[lst [.str x t] (e + 1)],[],_,_⟩) D' rfl hN' rfl⟩
theorem con_push1 {N T:Nat} {l:Addr} {x v:Str} {t u:Tok} {e:Nat} :
    CG w b 580 5800 (.call (.ref 21) ⟨[.ref l,.str v u],[]⟩) [(l,lst [.str x t] e)] N T
      (fun z:Nat × Nat=>⟨.ret .none,[lst (if sLt v x then [.str v u,.str x t] else [.str x t,.str v u]) (e + 1)],[],z.1,z.2⟩):=by
  refine con_fn O (fn21 b w.params) (by decide) (ent21 b w.params N T (.ref l) (.str v u)) ?_
  intro A s h hz hA hu hN D hN1
  refine code_run O hz (push1 b w.params _ _ N l x x v _ _ 0 0 0 t t u e) D hN1 (HHx 1 ⟨⟨by decide,(con_sd2 O).mono (by show A.depth + 1 ≤ 600; omega) (by show A.units + 3 ≤ 6000; omega)⟩,fun _=>trivial,fun z=>?_⟩)
  intro h' D' hN'
  exact ⟨(_,_),rfl,aft_plain (q:=⟨.ret .none,[lst (if sLt v x then [.str v u,.str x t] else [.str x t,.str v u]) (e + 1)],[],_,_⟩) D' rfl hN' rfl⟩
theorem con_pop1 {N T:Nat} {l:Addr} {x:Str} {t:Tok} {e:Nat} :
    CG w b 580 5800 (.call (.ref 28) ⟨[.ref l],[]⟩) [(l,lst [.str x t] e)] N T
      (fun z:Nat × Nat=>⟨.ret (.str x t),[lst [] (e + 1)],[],z.1,z.2⟩):=by
  refine con_fn O (fn28 b w.params) (by decide) (ent28 b w.params N T (.ref l)) ?_
  intro A s h hz hA hu hN D hN1
  refine code_run O hz (pop1 b w.params _ _ N l x x x _ 0 0 0 0 t t t e) D hN1 ?_
  intro h' D' hN'
  exact ⟨(_,_),rfl,aft_plain (q:=⟨.ret (.str x t),[lst [] (e + 1)],[],_,_⟩) D' rfl hN' rfl⟩
theorem con_pop2 {N T:Nat} {l:Addr} {x y:Str} {t u:Tok} {e:Nat} :
    CG w b 580 5800 (.call (.ref 28) ⟨[.ref l],[]⟩) [(l,lst [.str x t,.str y u] e)] N T
      (fun z:Nat × Nat=>⟨.ret (.str x t),[lst [.str y u] (e + 1)],[],z.1,z.2⟩):=by
  refine con_fn O (fn28 b w.params) (by decide) (ent28 b w.params N T (.ref l)) ?_
  intro A s h hz hA hu hN D hN1
  refine code_run O hz (pop2 b w.params _ _ N l x y x _ 0 0 0 0 t u t e) D hN1 (HHx 1 ⟨⟨by decide,(con_su1 O).mono (by show A.depth + 1 ≤ 590; omega) (by show A.units + 3 ≤ 5900; omega)⟩,fun _=>trivial,fun z=>?_⟩)
  intro h' D' hN'
  exact ⟨(_,_),rfl,aft_plain (q:=⟨.ret (.str x t),[lst [.str y u] (e + 1)],[],_,_⟩) D' rfl hN' rfl⟩
theorem con_rep1 {N T:Nat} {l:Addr} {x v:Str} {t u:Tok} {e:Nat} :
    CG w b 580 5800 (.call (.ref 35) ⟨[.ref l,.str v u],[]⟩) [(l,lst [.str x t] e)] N T
      (fun z:Nat × Nat=>⟨.ret (.str x t),[lst [.str v u] e],[],z.1,z.2⟩):=by
  refine con_fn O (fn35 b w.params) (by decide) (ent35 b w.params N T (.ref l) (.str v u)) ?_
  intro A s h hz hA hu hN D hN1
  refine code_run O hz (rep1 b w.params _ _ N l x x v _ _ 0 0 0 t t u e) D hN1 (HHx 1 ⟨⟨by decide,(con_su1 O).mono (by show A.depth + 1 ≤ 590; omega) (by show A.units + 3 ≤ 5900; omega)⟩,fun _=>trivial,fun z=>?_⟩)
  intro h' D' hN'
  exact ⟨(_,_),rfl,aft_plain (q:=⟨.ret (.str x t),[lst [.str v u] e],[],_,_⟩) D' rfl hN' rfl⟩
theorem con_rep2 {N T:Nat} {l:Addr} {x y v:Str} {t t' u:Tok} {e:Nat} :
    CG w b 580 5800 (.call (.ref 35) ⟨[.ref l,.str v u],[]⟩) [(l,lst [.str x t,.str y t'] e)] N T
      (fun z:Nat × Nat=>⟨.ret (.str x t),[lst (if sLt v y then [.str v u,.str y t'] else [.str y t',.str v u]) e],[],z.1,z.2⟩):=by
  refine con_fn O (fn35 b w.params) (by decide) (ent35 b w.params N T (.ref l) (.str v u)) ?_
  intro A s h hz hA hu hN D hN1
  refine code_run O hz (rep2 b w.params _ _ N l x y v _ _ 0 0 0 t t' u e) D hN1 (HHx 1 ⟨⟨by decide,(con_su2 O).mono (by show A.depth + 1 ≤ 590; omega) (by show A.units + 3 ≤ 5900; omega)⟩,fun _=>trivial,fun z=>?_⟩)
  intro h' D' hN'
  exact ⟨(_,_),rfl,aft_plain (q:=⟨.ret (.str x t),[lst (if sLt v y then [.str v u,.str y t'] else [.str y t',.str v u]) e],[],_,_⟩) D' rfl hN' rfl⟩
end
end Mine
end
section
namespace Mine
section
variable (b:Bool) (P:Params) (N T:Nat)
theorem bi1t (aF l:Addr) (x0 x1 x2 x5:Str) (t0 t1 t2 t3 t4 t5 t10 t11 t12 t15:Tok) (e:Nat):Sg b P 129 [2,2,0,0,2,1,1,1,2,2,2,2,2,2,2,2,2,2,2,2,1,1,1,1,1,2,2,2,2,2,2] [0,0,0,0,0,0,0,0,0,0,0,0,0,0,0,0,1,0,0,0] (cd67 aF) [(l,(lst [(.str x0 t10)] e)),(aF,(frm P [(J21,t0,(.ref l)),(J24,t1,(.str x5 t15)),(J26,t2,(.int 0 t3)),(J27,t4,.none),(J11,t5,.none)] 5))] N T (.ask Unit ⟨(.builtin "str.__lt__" ⟨[(.str x5 t15),(.str x0 t10)],[]⟩),1,3,[],N,(T + 8)⟩ [] (fun z1=>⟨(.ret (.bool true)),[],[],N,(T + 8)⟩) fun z1=>.fin (.ok (.done (.ret (.int 0 t3)))) [(l,(lst [(.str x0 t10)] e)),(aF,(frm P [(J21,t0,(.ref l)),(J24,t1,(.str x5 t15)),(J26,t2,(.int 0 t3)),(J27,t4,(.int 0 (T + 6))),(J11,t5,.none),(J47,(T + 7),(.int 0 (T + 6)))] 6))] N (T + 9)):=fx 1 ⟨⟨()⟩,fun z1=>trivial⟩ (by kernel_rfl)
theorem bi1f (aF l:Addr) (x0 x1 x2 x5:Str) (t0 t1 t2 t3 t4 t5 t10 t11 t12 t15:Tok) (e:Nat):Sg b P 135 [2,2,0,0,2,1,1,1,2,2,2,2,2,2,2,2,2,2,2,2,1,1,1,1,1,2,2,2,2,2,2] [0,0,0,0,0,0,0,0,0,0,0,0,0,0,0,0,1,0,0,0,0,0] (cd67 aF) [(l,(lst [(.str x0 t10)] e)),(aF,(frm P [(J21,t0,(.ref l)),(J24,t1,(.str x5 t15)),(J26,t2,(.int 0 t3)),(J27,t4,.none),(J11,t5,.none)] 5))] N T (.ask Unit ⟨(.builtin "str.__lt__" ⟨[(.str x5 t15),(.str x0 t10)],[]⟩),1,3,[],N,(T + 8)⟩ [] (fun z1=>⟨(.ret (.bool false)),[],[],N,(T + 8)⟩) fun z1=>.fin (.ok (.done (.ret (.int 1 (T + 9))))) [(l,(lst [(.str x0 t10)] e)),(aF,(frm P [(J21,t0,(.ref l)),(J24,t1,(.str x5 t15)),(J26,t2,(.int 1 (T + 9))),(J27,t4,(.int 1 (T + 2))),(J11,t5,.none),(J47,(T + 7),(.int 0 (T + 6)))] 6))] N (T + 11)):=fx 1 ⟨⟨()⟩,fun z1=>trivial⟩ (by kernel_rfl)
theorem bi2tt (aF l:Addr) (x0 x1 x2 x5:Str) (t0 t1 t2 t3 t4 t5 t10 t11 t12 t15:Tok) (e:Nat):Sg b P 192 [2,2,0,0,2,1,1,1,2,2,2,2,2,2,2,2,2,2,2,2,1,1,1,1,1,2,2,2,2,2,2,2,2,2,2,2,2,1,1,1,1,1,2,2,2,2,2,2] [0,0,0,0,0,0,0,0,0,0,0,0,0,0,0,0,1,0,0,0,0,0,0,0,0,0,0,1,0,0,0] (cd67 aF) [(l,(lst [(.str x0 t10),(.str x1 t11)] e)),(aF,(frm P [(J21,t0,(.ref l)),(J24,t1,(.str x5 t15)),(J26,t2,(.int 0 t3)),(J27,t4,.none),(J11,t5,.none)] 5))] N T (.ask Unit ⟨(.builtin "str.__lt__" ⟨[(.str x5 t15),(.str x1 t11)],[]⟩),1,3,[],N,(T + 8)⟩ [] (fun z1=>⟨(.ret (.bool true)),[],[],N,(T + 8)⟩) fun z1=>.ask Unit ⟨(.builtin "str.__lt__" ⟨[(.str x5 t15),(.str x0 t10)],[]⟩),1,3,[],N,(T + 13)⟩ [] (fun z2=>⟨(.ret (.bool true)),[],[],N,(T + 13)⟩) fun z2=>.fin (.ok (.done (.ret (.int 0 t3)))) [(l,(lst [(.str x0 t10),(.str x1 t11)] e)),(aF,(frm P [(J21,t0,(.ref l)),(J24,t1,(.str x5 t15)),(J26,t2,(.int 0 t3)),(J27,t4,(.int 0 (T + 11))),(J11,t5,.none),(J47,(T + 7),(.int 0 (T + 11)))] 6))] N (T + 14)):=fx 2 ⟨⟨()⟩,fun z1=>⟨()⟩,fun z1 z2=>trivial⟩ (by kernel_rfl)
theorem bi2tf (aF l:Addr) (x0 x1 x2 x5:Str) (t0 t1 t2 t3 t4 t5 t10 t11 t12 t15:Tok) (e:Nat):Sg b P 198 [2,2,0,0,2,1,1,1,2,2,2,2,2,2,2,2,2,2,2,2,1,1,1,1,1,2,2,2,2,2,2,2,2,2,2,2,2,1,1,1,1,1,2,2,2,2,2,2] [0,0,0,0,0,0,0,0,0,0,0,0,0,0,0,0,1,0,0,0,0,0,0,0,0,0,0,1,0,0,0,0,0] (cd67 aF) [(l,(lst [(.str x0 t10),(.str x1 t11)] e)),(aF,(frm P [(J21,t0,(.ref l)),(J24,t1,(.str x5 t15)),(J26,t2,(.int 0 t3)),(J27,t4,.none),(J11,t5,.none)] 5))] N T (.ask Unit ⟨(.builtin "str.__lt__" ⟨[(.str x5 t15),(.str x1 t11)],[]⟩),1,3,[],N,(T + 8)⟩ [] (fun z1=>⟨(.ret (.bool true)),[],[],N,(T + 8)⟩) fun z1=>.ask Unit ⟨(.builtin "str.__lt__" ⟨[(.str x5 t15),(.str x0 t10)],[]⟩),1,3,[],N,(T + 13)⟩ [] (fun z2=>⟨(.ret (.bool false)),[],[],N,(T + 13)⟩) fun z2=>.fin (.ok (.done (.ret (.int 1 (T + 14))))) [(l,(lst [(.str x0 t10),(.str x1 t11)] e)),(aF,(frm P [(J21,t0,(.ref l)),(J24,t1,(.str x5 t15)),(J26,t2,(.int 1 (T + 14))),(J27,t4,(.int 1 (T + 6))),(J11,t5,.none),(J47,(T + 7),(.int 0 (T + 11)))] 6))] N (T + 16)):=fx 2 ⟨⟨()⟩,fun z1=>⟨()⟩,fun z1 z2=>trivial⟩ (by kernel_rfl)
theorem bi2f (aF l:Addr) (x0 x1 x2 x5:Str) (t0 t1 t2 t3 t4 t5 t10 t11 t12 t15:Tok) (e:Nat):Sg b P 135 [2,2,0,0,2,1,1,1,2,2,2,2,2,2,2,2,2,2,2,2,1,1,1,1,1,2,2,2,2,2,2] [0,0,0,0,0,0,0,0,0,0,0,0,0,0,0,0,1,0,0,0,0,0] (cd67 aF) [(l,(lst [(.str x0 t10),(.str x1 t11)] e)),(aF,(frm P [(J21,t0,(.ref l)),(J24,t1,(.str x5 t15)),(J26,t2,(.int 0 t3)),(J27,t4,.none),(J11,t5,.none)] 5))] N T (.ask Unit ⟨(.builtin "str.__lt__" ⟨[(.str x5 t15),(.str x1 t11)],[]⟩),1,3,[],N,(T + 8)⟩ [] (fun z1=>⟨(.ret (.bool false)),[],[],N,(T + 8)⟩) fun z1=>.fin (.ok (.done (.ret (.int 2 (T + 9))))) [(l,(lst [(.str x0 t10),(.str x1 t11)] e)),(aF,(frm P [(J21,t0,(.ref l)),(J24,t1,(.str x5 t15)),(J26,t2,(.int 2 (T + 9))),(J27,t4,(.int 2 (T + 2))),(J11,t5,.none),(J47,(T + 7),(.int 1 (T + 6)))] 6))] N (T + 11)):=fx 1 ⟨⟨()⟩,fun z1=>trivial⟩ (by kernel_rfl)
theorem bi3tt (aF l:Addr) (x0 x1 x2 x5:Str) (t0 t1 t2 t3 t4 t5 t10 t11 t12 t15:Tok) (e:Nat):Sg b P 192 [2,2,0,0,2,1,1,1,2,2,2,2,2,2,2,2,2,2,2,2,1,1,1,1,1,2,2,2,2,2,2,2,2,2,2,2,2,1,1,1,1,1,2,2,2,2,2,2] [0,0,0,0,0,0,0,0,0,0,0,0,0,0,0,0,1,0,0,0,0,0,0,0,0,0,0,1,0,0,0] (cd67 aF) [(l,(lst [(.str x0 t10),(.str x1 t11),(.str x2 t12)] e)),(aF,(frm P [(J21,t0,(.ref l)),(J24,t1,(.str x5 t15)),(J26,t2,(.int 0 t3)),(J27,t4,.none),(J11,t5,.none)] 5))] N T (.ask Unit ⟨(.builtin "str.__lt__" ⟨[(.str x5 t15),(.str x1 t11)],[]⟩),1,3,[],N,(T + 8)⟩ [] (fun z1=>⟨(.ret (.bool true)),[],[],N,(T + 8)⟩) fun z1=>.ask Unit ⟨(.builtin "str.__lt__" ⟨[(.str x5 t15),(.str x0 t10)],[]⟩),1,3,[],N,(T + 13)⟩ [] (fun z2=>⟨(.ret (.bool true)),[],[],N,(T + 13)⟩) fun z2=>.fin (.ok (.done (.ret (.int 0 t3)))) [(l,(lst [(.str x0 t10),(.str x1 t11),(.str x2 t12)] e)),(aF,(frm P [(J21,t0,(.ref l)),(J24,t1,(.str x5 t15)),(J26,t2,(.int 0 t3)),(J27,t4,(.int 0 (T + 11))),(J11,t5,.none),(J47,(T + 7),(.int 0 (T + 11)))] 6))] N (T + 14)):=fx 2 ⟨⟨()⟩,fun z1=>⟨()⟩,fun z1 z2=>trivial⟩ (by kernel_rfl)
theorem bi3tf (aF l:Addr) (x0 x1 x2 x5:Str) (t0 t1 t2 t3 t4 t5 t10 t11 t12 t15:Tok) (e:Nat):Sg b P 198 [2,2,0,0,2,1,1,1,2,2,2,2,2,2,2,2,2,2,2,2,1,1,1,1,1,2,2,2,2,2,2,2,2,2,2,2,2,1,1,1,1,1,2,2,2,2,2,2] [0,0,0,0,0,0,0,0,0,0,0,0,0,0,0,0,1,0,0,0,0,0,0,0,0,0,0,1,0,0,0,0,0] (cd67 aF) [(l,(lst [(.str x0 t10),(.str x1 t11),(.str x2 t12)] e)),(aF,(frm P [(J21,t0,(.ref l)),(J24,t1,(.str x5 t15)),(J26,t2,(.int 0 t3)),(J27,t4,.none),(J11,t5,.none)] 5))] N T (.ask Unit ⟨(.builtin "str.__lt__" ⟨[(.str x5 t15),(.str x1 t11)],[]⟩),1,3,[],N,(T + 8)⟩ [] (fun z1=>⟨(.ret (.bool true)),[],[],N,(T + 8)⟩) fun z1=>.ask Unit ⟨(.builtin "str.__lt__" ⟨[(.str x5 t15),(.str x0 t10)],[]⟩),1,3,[],N,(T + 13)⟩ [] (fun z2=>⟨(.ret (.bool false)),[],[],N,(T + 13)⟩) fun z2=>.fin (.ok (.done (.ret (.int 1 (T + 14))))) [(l,(lst [(.str x0 t10),(.str x1 t11),(.str x2 t12)] e)),(aF,(frm P [(J21,t0,(.ref l)),(J24,t1,(.str x5 t15)),(J26,t2,(.int 1 (T + 14))),(J27,t4,(.int 1 (T + 6))),(J11,t5,.none),(J47,(T + 7),(.int 0 (T + 11)))] 6))] N (T + 16)):=fx 2 ⟨⟨()⟩,fun z1=>⟨()⟩,fun z1 z2=>trivial⟩ (by kernel_rfl)
theorem bi3ft (aF l:Addr) (x0 x1 x2 x5:Str) (t0 t1 t2 t3 t4 t5 t10 t11 t12 t15:Tok) (e:Nat):Sg b P 198 [2,2,0,0,2,1,1,1,2,2,2,2,2,2,2,2,2,2,2,2,1,1,1,1,1,2,2,2,2,2,2,2,2,2,2,2,2,1,1,1,1,1,2,2,2,2,2,2] [0,0,0,0,0,0,0,0,0,0,0,0,0,0,0,0,1,0,0,0,0,0,0,0,0,0,0,0,0,1,0,0,0] (cd67 aF) [(l,(lst [(.str x0 t10),(.str x1 t11),(.str x2 t12)] e)),(aF,(frm P [(J21,t0,(.ref l)),(J24,t1,(.str x5 t15)),(J26,t2,(.int 0 t3)),(J27,t4,.none),(J11,t5,.none)] 5))] N T (.ask Unit ⟨(.builtin "str.__lt__" ⟨[(.str x5 t15),(.str x1 t11)],[]⟩),1,3,[],N,(T + 8)⟩ [] (fun z1=>⟨(.ret (.bool false)),[],[],N,(T + 8)⟩) fun z1=>.ask Unit ⟨(.builtin "str.__lt__" ⟨[(.str x5 t15),(.str x2 t12)],[]⟩),1,3,[],N,(T + 15)⟩ [] (fun z2=>⟨(.ret (.bool true)),[],[],N,(T + 15)⟩) fun z2=>.fin (.ok (.done (.ret (.int 2 (T + 9))))) [(l,(lst [(.str x0 t10),(.str x1 t11),(.str x2 t12)] e)),(aF,(frm P [(J21,t0,(.ref l)),(J24,t1,(.str x5 t15)),(J26,t2,(.int 2 (T + 9))),(J27,t4,(.int 2 (T + 13))),(J11,t5,.none),(J47,(T + 7),(.int 2 (T + 13)))] 6))] N (T + 16)):=fx 2 ⟨⟨()⟩,fun z1=>⟨()⟩,fun z1 z2=>trivial⟩ (by kernel_rfl)
theorem bi3ff (aF l:Addr) (x0 x1 x2 x5:Str) (t0 t1 t2 t3 t4 t5 t10 t11 t12 t15:Tok) (e:Nat):Sg b P 204 [2,2,0,0,2,1,1,1,2,2,2,2,2,2,2,2,2,2,2,2,1,1,1,1,1,2,2,2,2,2,2,2,2,2,2,2,2,1,1,1,1,1,2,2,2,2,2,2] [0,0,0,0,0,0,0,0,0,0,0,0,0,0,0,0,1,0,0,0,0,0,0,0,0,0,0,0,0,1,0,0,0,0,0] (cd67 aF) [(l,(lst [(.str x0 t10),(.str x1 t11),(.str x2 t12)] e)),(aF,(frm P [(J21,t0,(.ref l)),(J24,t1,(.str x5 t15)),(J26,t2,(.int 0 t3)),(J27,t4,.none),(J11,t5,.none)] 5))] N T (.ask Unit ⟨(.builtin "str.__lt__" ⟨[(.str x5 t15),(.str x1 t11)],[]⟩),1,3,[],N,(T + 8)⟩ [] (fun z1=>⟨(.ret (.bool false)),[],[],N,(T + 8)⟩) fun z1=>.ask Unit ⟨(.builtin "str.__lt__" ⟨[(.str x5 t15),(.str x2 t12)],[]⟩),1,3,[],N,(T + 15)⟩ [] (fun z2=>⟨(.ret (.bool false)),[],[],N,(T + 15)⟩) fun z2=>.fin (.ok (.done (.ret (.int 3 (T + 16))))) [(l,(lst [(.str x0 t10),(.str x1 t11),(.str x2 t12)] e)),(aF,(frm P [(J21,t0,(.ref l)),(J24,t1,(.str x5 t15)),(J26,t2,(.int 3 (T + 16))),(J27,t4,(.int 3 (T + 2))),(J11,t5,.none),(J47,(T + 7),(.int 2 (T + 13)))] 6))] N (T + 18)):=fx 2 ⟨⟨()⟩,fun z1=>⟨()⟩,fun z1 z2=>trivial⟩ (by kernel_rfl)
theorem is10 (aF l:Addr) (x0 x1 x5:Str) (t0 t1 t2 t3 t4 t5 t10 t11 t15:Tok) (e:Nat):Sg b P 55 [2,0,2,2,2,2,0,2,2,2,1,1,1,1,2,2,1,1,1,1] [1,0,0] (cd58 aF) [(l,(lst [(.str x0 t10)] e)),(aF,(frm P [(J21,t0,(.ref l)),(J24,t1,(.str x5 t15)),(J26,t2,(.int 0 t3)),(J27,t4,.none),(J11,t5,.none)] 5))] N T (.ask (Nat × Nat × Tok) ⟨(.call (.ref 67) ⟨[(.ref l),(.str x5 t15),(.int 0 t3),.none],[]⟩),1,3,[(l,(lst [(.str x0 t10)] e))],N,T⟩ [0] (fun z1=>⟨(.ret (.int 0 z1.2.2)),[(lst [(.str x0 t10)] e)],[],z1.1,z1.2.1⟩) fun z1=>.fin (.ok (.done (.ret .none))) [(l,(lst [(.str x5 t15),(.str x0 t10)] (e + 1))),(aF,(frm P [(J21,t0,(.ref l)),(J24,t1,(.str x5 t15)),(J26,t2,(.int 0 z1.2.2)),(J27,t4,.none),(J11,t5,.none)] 5))] z1.1 (z1.2.1 + 1)):=fx 1 ⟨⟨(0,0,0)⟩,fun z1=>trivial⟩ (by kernel_rfl)
theorem is11 (aF l:Addr) (x0 x1 x5:Str) (t0 t1 t2 t3 t4 t5 t10 t11 t15:Tok) (e:Nat):Sg b P 55 [2,0,2,2,2,2,0,2,2,2,1,1,1,1,2,2,1,1,1,1] [1,0,0] (cd58 aF) [(l,(lst [(.str x0 t10)] e)),(aF,(frm P [(J21,t0,(.ref l)),(J24,t1,(.str x5 t15)),(J26,t2,(.int 0 t3)),(J27,t4,.none),(J11,t5,.none)] 5))] N T (.ask (Nat × Nat × Tok) ⟨(.call (.ref 67) ⟨[(.ref l),(.str x5 t15),(.int 0 t3),.none],[]⟩),1,3,[(l,(lst [(.str x0 t10)] e))],N,T⟩ [0] (fun z1=>⟨(.ret (.int 1 z1.2.2)),[(lst [(.str x0 t10)] e)],[],z1.1,z1.2.1⟩) fun z1=>.fin (.ok (.done (.ret .none))) [(l,(lst [(.str x0 t10),(.str x5 t15)] (e + 1))),(aF,(frm P [(J21,t0,(.ref l)),(J24,t1,(.str x5 t15)),(J26,t2,(.int 1 z1.2.2)),(J27,t4,.none),(J11,t5,.none)] 5))] z1.1 (z1.2.1 + 1)):=fx 1 ⟨⟨(0,0,0)⟩,fun z1=>trivial⟩ (by kernel_rfl)
theorem is20 (aF l:Addr) (x0 x1 x5:Str) (t0 t1 t2 t3 t4 t5 t10 t11 t15:Tok) (e:Nat):Sg b P 55 [2,0,2,2,2,2,0,2,2,2,1,1,1,1,2,2,1,1,1,1] [1,0,0] (cd58 aF) [(l,(lst [(.str x0 t10),(.str x1 t11)] e)),(aF,(frm P [(J21,t0,(.ref l)),(J24,t1,(.str x5 t15)),(J26,t2,(.int 0 t3)),(J27,t4,.none),(J11,t5,.none)] 5))] N T (.ask (Nat × Nat × Tok) ⟨(.call (.ref 67) ⟨[(.ref l),(.str x5 t15),(.int 0 t3),.none],[]⟩),1,3,[(l,(lst [(.str x0 t10),(.str x1 t11)] e))],N,T⟩ [0] (fun z1=>⟨(.ret (.int 0 z1.2.2)),[(lst [(.str x0 t10),(.str x1 t11)] e)],[],z1.1,z1.2.1⟩) fun z1=>.fin (.ok (.done (.ret .none))) [(l,(lst [(.str x5 t15),(.str x0 t10),(.str x1 t11)] (e + 1))),(aF,(frm P [(J21,t0,(.ref l)),(J24,t1,(.str x5 t15)),(J26,t2,(.int 0 z1.2.2)),(J27,t4,.none),(J11,t5,.none)] 5))] z1.1 (z1.2.1 + 1)):=fx 1 ⟨⟨(0,0,0)⟩,fun z1=>trivial⟩ (by kernel_rfl)
theorem is21 (aF l:Addr) (x0 x1 x5:Str) (t0 t1 t2 t3 t4 t5 t10 t11 t15:Tok) (e:Nat):Sg b P 55 [2,0,2,2,2,2,0,2,2,2,1,1,1,1,2,2,1,1,1,1] [1,0,0] (cd58 aF) [(l,(lst [(.str x0 t10),(.str x1 t11)] e)),(aF,(frm P [(J21,t0,(.ref l)),(J24,t1,(.str x5 t15)),(J26,t2,(.int 0 t3)),(J27,t4,.none),(J11,t5,.none)] 5))] N T (.ask (Nat × Nat × Tok) ⟨(.call (.ref 67) ⟨[(.ref l),(.str x5 t15),(.int 0 t3),.none],[]⟩),1,3,[(l,(lst [(.str x0 t10),(.str x1 t11)] e))],N,T⟩ [0] (fun z1=>⟨(.ret (.int 1 z1.2.2)),[(lst [(.str x0 t10),(.str x1 t11)] e)],[],z1.1,z1.2.1⟩) fun z1=>.fin (.ok (.done (.ret .none))) [(l,(lst [(.str x0 t10),(.str x5 t15),(.str x1 t11)] (e + 1))),(aF,(frm P [(J21,t0,(.ref l)),(J24,t1,(.str x5 t15)),(J26,t2,(.int 1 z1.2.2)),(J27,t4,.none),(J11,t5,.none)] 5))] z1.1 (z1.2.1 + 1)):=fx 1 ⟨⟨(0,0,0)⟩,fun z1=>trivial⟩ (by kernel_rfl)
theorem is22 (aF l:Addr) (x0 x1 x5:Str) (t0 t1 t2 t3 t4 t5 t10 t11 t15:Tok) (e:Nat):Sg b P 55 [2,0,2,2,2,2,0,2,2,2,1,1,1,1,2,2,1,1,1,1] [1,0,0] (cd58 aF) [(l,(lst [(.str x0 t10),(.str x1 t11)] e)),(aF,(frm P [(J21,t0,(.ref l)),(J24,t1,(.str x5 t15)),(J26,t2,(.int 0 t3)),(J27,t4,.none),(J11,t5,.none)] 5))] N T (.ask (Nat × Nat × Tok) ⟨(.call (.ref 67) ⟨[(.ref l),(.str x5 t15),(.int 0 t3),.none],[]⟩),1,3,[(l,(lst [(.str x0 t10),(.str x1 t11)] e))],N,T⟩ [0] (fun z1=>⟨(.ret (.int 2 z1.2.2)),[(lst [(.str x0 t10),(.str x1 t11)] e)],[],z1.1,z1.2.1⟩) fun z1=>.fin (.ok (.done (.ret .none))) [(l,(lst [(.str x0 t10),(.str x1 t11),(.str x5 t15)] (e + 1))),(aF,(frm P [(J21,t0,(.ref l)),(J24,t1,(.str x5 t15)),(J26,t2,(.int 2 z1.2.2)),(J27,t4,.none),(J11,t5,.none)] 5))] z1.1 (z1.2.1 + 1)):=fx 1 ⟨⟨(0,0,0)⟩,fun z1=>trivial⟩ (by kernel_rfl)
end
noncomputable def bis1 (x a:Str):Int:=if sLt x a then 0 else 1
noncomputable def bis2 (x a c:Str):Int:=if sLt x c then (if sLt x a then 0 else 1) else 2
noncomputable def bis3 (x a c d:Str):Int:=if sLt x c then (if sLt x a then 0 else 1) else (if sLt x d then 2 else 3)
noncomputable def biFr (P:Params) (l:Addr) (v:Value) (t0 t1 t2 t3 t4 t5:Tok):Obj:=frm P [((sg [97]),t0,(.ref l)),((sg [120]),t1,v),((sg [108,111]),t2,(.int 0 t3)),((sg [104,105]),t4,.none),((sg [107,101,121]),t5,.none)] 5
section
variable {w:World} {b:Bool} (O:(cfg b w.params).Ok PG w)
include O
theorem body67_1 {N T:Nat} {aF l:Addr} {x x0:Str} {t t0 t1 t2 t3 t4 t5 t10:Tok} {e:Nat} {A:Around} (hz:A.handled = none) {s:Shared} {h:Heap}
    (D:Rep (cfg b w.params) [l] s.heap [(l,lst [.str x0 t10] e),(aF,biFr w.params l (.str x t) t0 t1 t2 t3 t4 t5)] h) (hN:h.objs.size = N) :
    codeAny (model PG w) A (cd67 aF) (fun r s'=>∃ z:Nat × Nat × Tok,r = .ok (.ret (.int (bis1 x x0) z.2.2)) ∧ Aft s s' [(l,lst [.str x0 t10] e)] ⟨.ret (.int (bis1 x x0) z.2.2),[lst [.str x0 t10] e],[],z.1,z.2.1⟩) ⟨h,s.gens,s.drawn,T,s.os⟩:=by
  unfold bis1
  cases hc:sLt x x0 with
  | true=>
    refine code_run O hz (bi1t b w.params _ _ aF l x0 x0 x0 x t0 t1 t2 t3 t4 t5 t10 t10 t10 t e) D hN (HHx 1 ⟨⟨by decide,conLt O hc⟩,fun _=>trivial,fun z=>?_⟩)
    intro h' D' hN'
    exact ⟨(_,_,_),rfl,aft_plain (q:=⟨_,[lst [.str x0 t10] e],[],_,_⟩) D' rfl hN' rfl⟩
  | false=>
    refine code_run O hz (bi1f b w.params _ _ aF l x0 x0 x0 x t0 t1 t2 t3 t4 t5 t10 t10 t10 t e) D hN (HHx 1 ⟨⟨by decide,conLt O hc⟩,fun _=>trivial,fun z=>?_⟩)
    intro h' D' hN'
    exact ⟨(_,_,_),rfl,aft_plain (q:=⟨_,[lst [.str x0 t10] e],[],_,_⟩) D' rfl hN' rfl⟩
theorem body67_2 {N T:Nat} {aF l:Addr} {x x0 x1:Str} {t t0 t1 t2 t3 t4 t5 t10 t11:Tok} {e:Nat} {A:Around} (hz:A.handled = none) {s:Shared} {h:Heap}
    (D:Rep (cfg b w.params) [l] s.heap [(l,lst [.str x0 t10,.str x1 t11] e),(aF,biFr w.params l (.str x t) t0 t1 t2 t3 t4 t5)] h) (hN:h.objs.size = N) :
    codeAny (model PG w) A (cd67 aF) (fun r s'=>∃ z:Nat × Nat × Tok,r = .ok (.ret (.int (bis2 x x0 x1) z.2.2)) ∧ Aft s s' [(l,lst [.str x0 t10,.str x1 t11] e)] ⟨.ret (.int (bis2 x x0 x1) z.2.2),[lst [.str x0 t10,.str x1 t11] e],[],z.1,z.2.1⟩) ⟨h,s.gens,s.drawn,T,s.os⟩:=by
  unfold bis2
  cases hc:sLt x x1 with
  | true=>
    cases hd:sLt x x0 with
    | true=>
      refine code_run O hz (bi2tt b w.params _ _ aF l x0 x1 x0 x t0 t1 t2 t3 t4 t5 t10 t11 t10 t e) D hN (HHx 2 ⟨⟨by decide,conLt O hc⟩,fun z=>⟨by decide,conLt O hd⟩,fun _ _=>trivial,fun z z=>?_⟩)
      intro h' D' hN'
      exact ⟨(_,_,_),rfl,aft_plain (q:=⟨_,[lst [.str x0 t10,.str x1 t11] e],[],_,_⟩) D' rfl hN' rfl⟩
    | false=>
      refine code_run O hz (bi2tf b w.params _ _ aF l x0 x1 x0 x t0 t1 t2 t3 t4 t5 t10 t11 t10 t e) D hN (HHx 2 ⟨⟨by decide,conLt O hc⟩,fun z=>⟨by decide,conLt O hd⟩,fun _ _=>trivial,fun z z=>?_⟩)
      intro h' D' hN'
      exact ⟨(_,_,_),rfl,aft_plain (q:=⟨_,[lst [.str x0 t10,.str x1 t11] e],[],_,_⟩) D' rfl hN' rfl⟩
  | false=>
    refine code_run O hz (bi2f b w.params _ _ aF l x0 x1 x0 x t0 t1 t2 t3 t4 t5 t10 t11 t10 t e) D hN (HHx 1 ⟨⟨by decide,conLt O hc⟩,fun _=>trivial,fun z=>?_⟩)
    intro h' D' hN'
    exact ⟨(_,_,_),rfl,aft_plain (q:=⟨_,[lst [.str x0 t10,.str x1 t11] e],[],_,_⟩) D' rfl hN' rfl⟩
theorem body67_3 {N T:Nat} {aF l:Addr} {x x0 x1 x2:Str} {t t0 t1 t2 t3 t4 t5 t10 t11 t12:Tok} {e:Nat} {A:Around} (hz:A.handled = none) {s:Shared} {h:Heap}
    (D:Rep (cfg b w.params) [l] s.heap [(l,lst [.str x0 t10,.str x1 t11,.str x2 t12] e),(aF,biFr w.params l (.str x t) t0 t1 t2 t3 t4 t5)] h) (hN:h.objs.size = N) :
    codeAny (model PG w) A (cd67 aF) (fun r s'=>∃ z:Nat × Nat × Tok,r = .ok (.ret (.int (bis3 x x0 x1 x2) z.2.2)) ∧ Aft s s' [(l,lst [.str x0 t10,.str x1 t11,.str x2 t12] e)] ⟨.ret (.int (bis3 x x0 x1 x2) z.2.2),[lst [.str x0 t10,.str x1 t11,.str x2 t12] e],[],z.1,z.2.1⟩) ⟨h,s.gens,s.drawn,T,s.os⟩:=by
  unfold bis3
  cases hc:sLt x x1 with
  | true=>
    cases hd:sLt x x0 with
    | true=>
      refine code_run O hz (bi3tt b w.params _ _ aF l x0 x1 x2 x t0 t1 t2 t3 t4 t5 t10 t11 t12 t e) D hN (HHx 2 ⟨⟨by decide,conLt O hc⟩,fun z=>⟨by decide,conLt O hd⟩,fun _ _=>trivial,fun z z=>?_⟩)
      intro h' D' hN'
      exact ⟨(_,_,_),rfl,aft_plain (q:=⟨_,[lst [.str x0 t10,.str x1 t11,.str x2 t12] e],[],_,_⟩) D' rfl hN' rfl⟩
    | false=>
      refine code_run O hz (bi3tf b w.params _ _ aF l x0 x1 x2 x t0 t1 t2 t3 t4 t5 t10 t11 t12 t e) D hN (HHx 2 ⟨⟨by decide,conLt O hc⟩,fun z=>⟨by decide,conLt O hd⟩,fun _ _=>trivial,fun z z=>?_⟩)
      intro h' D' hN'
      exact ⟨(_,_,_),rfl,aft_plain (q:=⟨_,[lst [.str x0 t10,.str x1 t11,.str x2 t12] e],[],_,_⟩) D' rfl hN' rfl⟩
  | false=>
    cases hd:sLt x x2 with
    | true=>
      refine code_run O hz (bi3ft b w.params _ _ aF l x0 x1 x2 x t0 t1 t2 t3 t4 t5 t10 t11 t12 t e) D hN (HHx 2 ⟨⟨by decide,conLt O hc⟩,fun z=>⟨by decide,conLt O hd⟩,fun _ _=>trivial,fun z z=>?_⟩)
      intro h' D' hN'
      exact ⟨(_,_,_),rfl,aft_plain (q:=⟨_,[lst [.str x0 t10,.str x1 t11,.str x2 t12] e],[],_,_⟩) D' rfl hN' rfl⟩
    | false=>
      refine code_run O hz (bi3ff b w.params _ _ aF l x0 x1 x2 x t0 t1 t2 t3 t4 t5 t10 t11 t12 t e) D hN (HHx 2 ⟨⟨by decide,conLt O hc⟩,fun z=>⟨by decide,conLt O hd⟩,fun _ _=>trivial,fun z z=>?_⟩)
      intro h' D' hN'
      exact ⟨(_,_,_),rfl,aft_plain (q:=⟨_,[lst [.str x0 t10,.str x1 t11,.str x2 t12] e],[],_,_⟩) D' rfl hN' rfl⟩
theorem con_bi2 {N T:Nat} {l:Addr} {x x0 x1:Str} {t t10 t11:Tok} {e:Nat} :
    CG w b 580 5800 (.call (.ref 67) ⟨[.ref l,.str x t],[]⟩) [(l,lst [.str x0 t10,.str x1 t11] e)] N T
      (fun z:Nat × Nat × Tok=>⟨.ret (.int (bis2 x x0 x1) z.2.2),[lst [.str x0 t10,.str x1 t11] e],[],z.1,z.2.1⟩):=by
  refine con_fn O (fn67 b w.params) (by decide) (ent67 b w.params N T (.ref l) (.str x t)) ?_
  intro A s h hz hA hu hN D hN1
  exact body67_2 O hz D hN1
theorem con_bi3 {N T:Nat} {l:Addr} {x x0 x1 x2:Str} {t t10 t11 t12:Tok} {e:Nat} :
    CG w b 580 5800 (.call (.ref 67) ⟨[.ref l,.str x t],[]⟩) [(l,lst [.str x0 t10,.str x1 t11,.str x2 t12] e)] N T
      (fun z:Nat × Nat × Tok=>⟨.ret (.int (bis3 x x0 x1 x2) z.2.2),[lst [.str x0 t10,.str x1 t11,.str x2 t12] e],[],z.1,z.2.1⟩):=by
  refine con_fn O (fn67 b w.params) (by decide) (ent67 b w.params N T (.ref l) (.str x t)) ?_
  intro A s h hz hA hu hN D hN1
  exact body67_3 O hz D hN1
theorem con_bi1x {N T:Nat} {l:Addr} {x x0:Str} {t u t10:Tok} {e:Nat} :
    CG w b 580 5800 (.call (.ref 67) ⟨[.ref l,.str x t,.int 0 u,.none],[]⟩) [(l,lst [.str x0 t10] e)] N T
      (fun z:Nat × Nat × Tok=>⟨.ret (.int (bis1 x x0) z.2.2),[lst [.str x0 t10] e],[],z.1,z.2.1⟩):=by
  refine con_fn O (fn67 b w.params) (by decide) (ent67x b w.params N T (.ref l) (.str x t) (.int 0 u) .none) ?_
  intro A s h hz hA hu hN D hN1
  exact body67_1 O hz D hN1
theorem con_bi2x {N T:Nat} {l:Addr} {x x0 x1:Str} {t u t10 t11:Tok} {e:Nat} :
    CG w b 580 5800 (.call (.ref 67) ⟨[.ref l,.str x t,.int 0 u,.none],[]⟩) [(l,lst [.str x0 t10,.str x1 t11] e)] N T
      (fun z:Nat × Nat × Tok=>⟨.ret (.int (bis2 x x0 x1) z.2.2),[lst [.str x0 t10,.str x1 t11] e],[],z.1,z.2.1⟩):=by
  refine con_fn O (fn67 b w.params) (by decide) (ent67x b w.params N T (.ref l) (.str x t) (.int 0 u) .none) ?_
  intro A s h hz hA hu hN D hN1
  exact body67_2 O hz D hN1
theorem con_is1 {N T:Nat} {l:Addr} {x x0:Str} {t t10:Tok} {e:Nat} :
    CG w b 570 5700 (.call (.ref 58) ⟨[.ref l,.str x t],[]⟩) [(l,lst [.str x0 t10] e)] N T
      (fun z:Nat × Nat=>⟨.ret .none,[lst (if sLt x x0 then [.str x t,.str x0 t10] else [.str x0 t10,.str x t]) (e + 1)],[],z.1,z.2⟩):=by
  refine con_fn O (fn58 b w.params) (by decide) (ent58 b w.params N T (.ref l) (.str x t)) ?_
  intro A s h hz hA hu hN D hN1
  have K:=con_bi1x (N:=N + 1) (T:=T + 5) (l:=l) (x:=x) (x0:=x0) (t:=t) (u:=242) (t10:=t10) (e:=e) O
  unfold bis1 at K
  cases hc:sLt x x0 with
  | true=>
    rw [hc] at K
    refine code_run O hz (is10 b w.params _ _ N l x0 x0 x _ _ _ _ _ _ t10 t10 t e) D hN1 (HHx 1 ⟨⟨by decide,K.mono (by show A.depth + 1 ≤ 580; omega) (by show A.units + 3 ≤ 5800; omega)⟩,fun _=>trivial,fun z=>?_⟩)
    intro h' D' hN'
    exact ⟨(_,_),rfl,aft_plain (q:=⟨_,[lst [.str x t,.str x0 t10] (e + 1)],[],_,_⟩) D' rfl hN' rfl⟩
  | false=>
    rw [hc] at K
    refine code_run O hz (is11 b w.params _ _ N l x0 x0 x _ _ _ _ _ _ t10 t10 t e) D hN1 (HHx 1 ⟨⟨by decide,K.mono (by show A.depth + 1 ≤ 580; omega) (by show A.units + 3 ≤ 5800; omega)⟩,fun _=>trivial,fun z=>?_⟩)
    intro h' D' hN'
    exact ⟨(_,_),rfl,aft_plain (q:=⟨_,[lst [.str x0 t10,.str x t] (e + 1)],[],_,_⟩) D' rfl hN' rfl⟩
theorem con_is2 {N T:Nat} {l:Addr} {x x0 x1:Str} {t t10 t11:Tok} {e:Nat} :
    CG w b 570 5700 (.call (.ref 58) ⟨[.ref l,.str x t],[]⟩) [(l,lst [.str x0 t10,.str x1 t11] e)] N T
      (fun z:Nat × Nat=>⟨.ret .none,[lst (if sLt x x1 then (if sLt x x0 then [.str x t,.str x0 t10,.str x1 t11] else [.str x0 t10,.str x t,.str x1 t11]) else [.str x0 t10,.str x1 t11,.str x t]) (e + 1)],[],z.1,z.2⟩):=by
  refine con_fn O (fn58 b w.params) (by decide) (ent58 b w.params N T (.ref l) (.str x t)) ?_
  intro A s h hz hA hu hN D hN1
  have K:=con_bi2x (N:=N + 1) (T:=T + 5) (l:=l) (x:=x) (x0:=x0) (x1:=x1) (t:=t) (u:=242) (t10:=t10) (t11:=t11) (e:=e) O
  unfold bis2 at K
  cases hc:sLt x x1 with
  | true=>
    rw [hc] at K
    cases hd:sLt x x0 with
    | true=>
      rw [hd] at K
      refine code_run O hz (is20 b w.params _ _ N l x0 x1 x _ _ _ _ _ _ t10 t11 t e) D hN1 (HHx 1 ⟨⟨by decide,K.mono (by show A.depth + 1 ≤ 580; omega) (by show A.units + 3 ≤ 5800; omega)⟩,fun _=>trivial,fun z=>?_⟩)
      intro h' D' hN'
      exact ⟨(_,_),rfl,aft_plain (q:=⟨_,[lst [.str x t,.str x0 t10,.str x1 t11] (e + 1)],[],_,_⟩) D' rfl hN' rfl⟩
    | false=>
      rw [hd] at K
      refine code_run O hz (is21 b w.params _ _ N l x0 x1 x _ _ _ _ _ _ t10 t11 t e) D hN1 (HHx 1 ⟨⟨by decide,K.mono (by show A.depth + 1 ≤ 580; omega) (by show A.units + 3 ≤ 5800; omega)⟩,fun _=>trivial,fun z=>?_⟩)
      intro h' D' hN'
      exact ⟨(_,_),rfl,aft_plain (q:=⟨_,[lst [.str x0 t10,.str x t,.str x1 t11] (e + 1)],[],_,_⟩) D' rfl hN' rfl⟩
  | false=>
    rw [hc] at K
    refine code_run O hz (is22 b w.params _ _ N l x0 x1 x _ _ _ _ _ _ t10 t11 t e) D hN1 (HHx 1 ⟨⟨by decide,K.mono (by show A.depth + 1 ≤ 580; omega) (by show A.units + 3 ≤ 5800; omega)⟩,fun _=>trivial,fun z=>?_⟩)
    intro h' D' hN'
    exact ⟨(_,_),rfl,aft_plain (q:=⟨_,[lst [.str x0 t10,.str x1 t11,.str x t] (e + 1)],[],_,_⟩) D' rfl hN' rfl⟩
end
end Mine
end
section
namespace Mine
noncomputable def TX (vs:List Value) (xs:List Str):Prop:=∃ ps:List (Str × Tok),vs = ps.map (fun p=>.str p.1 p.2) ∧ ps.map (·.1) = xs
theorem TX.snoc {vs:List Value} {xs:List Str} {x:Str} {t:Tok} (h:TX vs xs):TX (sn vs (.str x t)) (xs++[x]):=by
  obtain ⟨ps,h1,h2⟩:=h
  exact ⟨ps++[(x,t)],by simp [sn,h1],by simp [h2]⟩
theorem TX.len {vs:List Value} {xs:List Str} (h:TX vs xs):vs.length = xs.length:=by
  obtain ⟨ps,h1,h2⟩:=h
  rw [h1,← h2]; simp
noncomputable def LH1 (P:Params) (X:LX) (aF it l lb:Addr) (sz:Int) (k:Nat → Tok) (q:LS) (i m f j:Int) (x3:Str) (t15 t16 t17:Tok) (lw:Addr) (c bs:List Value) (ec e2:Nat):Led:=
  lexL P X q.n q.tn q.S q.e q.B q.e1++[(aF,(frm P [((sg [108,105,110,101]),k 0,(.ref X.a)),((sg [115,105,122,101]),k 1,(.int sz (k 11))),((sg [114,111,111,109]),k 2,(.int 1 (k 12))),((sg [99,97,114,114,105,101,114]),k 3,(.ref l)),((sg [98,111,120,101,115]),k 4,(.ref lb)),((sg [102,97,108,108,115]),k 5,(.int f t15)),((sg [116,117,114,110]),k 6,(.int j t16)),((sg [104,101,114,101]),k 7,(.str x3 t17)),((sg [108,111,119]),k 8,(.ref lw))] 9)),(it,(fds "range_iterator" [(.int i 0),(.int m 0),(.int 1 0)])),(l,(lst c ec)),(lb,(lst bs e2))]
noncomputable def rH1:List Str → Str → List Str × Int
  | [],_=>([],0)
  | h :: ws,a=>let r:=rH1 ws h; (a :: r.1,(if sLt h a then 1 else 0) + r.2)
section
variable {w:World} {b:Bool} (O:(cfg b w.params).Ok PG w)
include O
theorem loop_h1 {X:LX} {F:LS → Prop} {aF it l lb:Addr} {sz:Int} {k:Nat → Tok} {A:Around} {R:Result → Shared → Prop} {S:List Addr} {h₀:Heap} {g:Array GenState} {d:Drawn} {os:OsState}
    (hz:A.handled = none) (hd:A.depth ≤ 550) (hu:A.units ≤ 5500) (want:List Str) (fw:Int)
    (hend:∀ q i f j x3 t15 t16 t17 lw c bs ec e2 h N T,F q → TX bs want → f = fw → Rep (cfg b w.params) S h₀ (LH1 w.params X aF it l lb sz k q i 0 f j x3 t15 t16 t17 lw c bs ec e2) h → h.objs.size = N → R (.ok .next) ⟨h,g,d,T,os⟩) :
    ∀ (ws:List Str) (q:LS) (i f j:Int) (x3:Str) (t15 t16 t17:Tok) (lw:Addr) (a:Str) (ta:Tok) (bs:List Value) (xs:List Str) (ec e2:Nat) (h:Heap) (N T:Nat),
      Yields w b X F ws q → TX bs xs → xs++(rH1 ws a).1 = want → f + (rH1 ws a).2 = fw → xs.length + ws.length ≤ 100 →
      Rep (cfg b w.params) S h₀ (LH1 w.params X aF it l lb sz k q i ws.length f j x3 t15 t16 t17 lw [.str a ta] bs ec e2) h → h.objs.size = N →
      codeAny (model PG w) A (flA130 aF it) R ⟨h,g,d,T,os⟩
  | [],q,i,f,j,x3,t15,t16,t17,lw,a,ta,bs,xs,ec,e2,h,N,T,hy,hb,hw,hf,hl,D,hN=>by
    refine code_run O hz (h1z b w.params N T (fun _=>True) ⟨⟨0,0,0,0,[],0,[],0,x3,0⟩,trivial⟩ X aF it l lb lw q.n i sz 0 f j 0 q.S q.B bs a x3 x3 x3 x3 q.tn (k 0) (k 1) (k 2) (k 3) (k 4) (k 5) (k 6) (k 7) (k 8) 0 ta 0 0 0 0 t15 t16 t17 0 (k 11) (k 12) q.e q.e1 e2 ec) D hN ?_
    intro h' D' hN' hq
    refine ⟨hq,block_nil (hend q i f j x3 t15 t16 t17 lw [.str a ta] bs ec e2 h' _ _ hy ?_ ?_ (Rep.sub D') hN')⟩
    · rw [← hw]; simpa [rH1] using hb
    · rw [← hf]; simp [rH1]
  | x :: ws,q,i,f,j,x3,t15,t16,t17,lw,a,ta,bs,xs,ec,e2,h,N,T,hy,hb,hw,hf,hl,D,hN=>by
    obtain ⟨G,⟨g0⟩,hc,hG⟩:=hy N (T + 2)
    have hs:sizeLine = 16777216:=by decide
    have hbl:=hb.len
    have hm:¬ (((x :: ws).length:Nat):Int) ≤ 0:=by simp only [List.length_cons]; omega
    have em:(((x :: ws).length:Nat):Int) - 1 = (ws.length:Nat):=by simp
    cases hcmp:sLt x a with
    | false=>
      refine code_run O hz (h1a b w.params N T G g0 X aF it l lb lw q.n i sz _ f j 0 q.S q.B bs a x3 x3 x3 x3 q.tn (k 0) (k 1) (k 2) (k 3) (k 4) (k 5) (k 6) (k 7) (k 8) 0 ta 0 0 0 0 t15 t16 t17 0 (k 11) (k 12) q.e q.e1 e2 ec) D hN
        (HHx 6 ⟨⟨by decide,conRng hm⟩,fun _=>⟨by decide,hc.mono (bd hd rfl) (bd hu rfl)⟩,fun _ z2=>⟨by decide,conLe O (by rw [(hG z2.1 z2.2).1,hcmp]; rfl)⟩,fun _ z2 _=>⟨by decide,(con_pop1 O).mono (bd hd rfl) (bd hu rfl)⟩,fun _ z2 _ z4=>⟨by decide,conAppend (by rw [hbl]; simp at hl; omega)⟩,fun _ z2 _ z4 _=>⟨by decide,(con_push0 O).mono (bd hd rfl) (bd hu rfl)⟩,fun _ _ _ _ _ _=>trivial,fun _ z2 _ z4 _ z6=>?_⟩)
      intro h' D' hN' hq
      refine ⟨hq,?_⟩
      rw [em] at D'
      have hx:=(hG z2.1 z2.2).1
      refine loop_h1 hz hd hu want fw hend ws z2.1.ls (i + 1) f i z2.1.x t15 T z2.1.t z2.1.N z2.1.x z2.1.t _ (xs++[a]) _ _ h' _ _ (hG z2.1 z2.2).2 hb.snoc ?_ ?_ ?_ (Rep.sub D') hN'
      · rw [hx,← hw]; simp [rH1]
      · rw [hx,← hf]; simp [rH1,hcmp]
      · simp at hl ⊢; omega
    | true=>
      refine code_run O hz (h1b b w.params N T G g0 X aF it l lb lw q.n i sz _ f j 0 q.S q.B bs a x3 x3 x3 x3 q.tn (k 0) (k 1) (k 2) (k 3) (k 4) (k 5) (k 6) (k 7) (k 8) 0 ta 0 0 0 0 t15 t16 t17 0 (k 11) (k 12) q.e q.e1 e2 ec) D hN
        (HHx 5 ⟨⟨by decide,conRng hm⟩,fun _=>⟨by decide,hc.mono (bd hd rfl) (bd hu rfl)⟩,fun _ z2=>⟨by decide,conLe O (by rw [(hG z2.1 z2.2).1,hcmp]; rfl)⟩,fun _ z2 _=>⟨by decide,(con_rep1 O).mono (bd hd rfl) (bd hu rfl)⟩,fun _ z2 _ z4=>⟨by decide,conAppend (by rw [hbl]; simp at hl; omega)⟩,fun _ _ _ _ _=>trivial,fun _ z2 _ z4 _=>?_⟩)
      intro h' D' hN' hq
      refine ⟨hq,?_⟩
      rw [em] at D'
      have hx:=(hG z2.1 z2.2).1
      refine loop_h1 hz hd hu want fw hend ws z2.1.ls (i + 1) (f + 1) i z2.1.x _ T z2.1.t z2.1.N z2.1.x z2.1.t _ (xs++[a]) _ _ h' _ _ (hG z2.1 z2.2).2 hb.snoc ?_ ?_ ?_ (Rep.sub D') hN'
      · rw [hx,← hw]; simp [rH1]
      · rw [hx,← hf]; simp [rH1,hcmp]; omega
      · simp at hl ⊢; omega
end
end Mine
end
section
namespace Mine
noncomputable def LH2 (P:Params) (X:LX) (aF it l lb:Addr) (sz:Int) (k:Nat → Tok) (q:LS) (i m f j:Int) (x3:Str) (t15 t16 t17:Tok) (lw:Addr) (x4:Str) (t18:Tok) (c bs:List Value) (ec e2:Nat):Led:=
  lexL P X q.n q.tn q.S q.e q.B q.e1++[(aF,(frm P [((sg [108,105,110,101]),k 0,(.ref X.a)),((sg [115,105,122,101]),k 1,(.int sz (k 11))),((sg [114,111,111,109]),k 2,(.int 2 (k 12))),((sg [99,97,114,114,105,101,114]),k 3,(.ref l)),((sg [98,111,120,101,115]),k 4,(.ref lb)),((sg [102,97,108,108,115]),k 5,(.int f t15)),((sg [116,117,114,110]),k 6,(.int j t16)),((sg [104,101,114,101]),k 7,(.str x3 t17)),((sg [108,111,119]),k 8,(.ref lw)),((sg [98,111,120]),k 9,(.str x4 t18))] 10)),(it,(fds "range_iterator" [(.int i 0),(.int m 0),(.int 1 0)])),(l,(lst c ec)),(lb,(lst bs e2))]
noncomputable def rH2:List Str → Str → Str → List Str × Int
  | [],_,_=>([],0)
  | h :: ws,a,c=>if sLt h a then (let r:=if sLt h c then rH2 ws h c else rH2 ws c h; (a :: r.1,1 + r.2))
    else if sLt h c then (let r:=if sLt a h then rH2 ws a h else rH2 ws h a; (c :: r.1,1 + r.2))
    else (let r:=if sLt c h then rH2 ws c h else rH2 ws h c; (a :: r.1,r.2))
section
variable {w:World} {b:Bool} (O:(cfg b w.params).Ok PG w)
include O
theorem loop_h2 {X:LX} {F:LS → Prop} {aF it l lb:Addr} {sz:Int} {k:Nat → Tok} {A:Around} {R:Result → Shared → Prop} {S:List Addr} {h₀:Heap} {g:Array GenState} {d:Drawn} {os:OsState}
    (hz:A.handled = none) (hd:A.depth ≤ 550) (hu:A.units ≤ 5500) (want:List Str) (fw:Int)
    (hend:∀ q i f j x3 t15 t16 t17 lw x4 t18 c bs ec e2 h N T,F q → TX bs want → f = fw → Rep (cfg b w.params) S h₀ (LH2 w.params X aF it l lb sz k q i 0 f j x3 t15 t16 t17 lw x4 t18 c bs ec e2) h → h.objs.size = N → R (.ok .next) ⟨h,g,d,T,os⟩) :
    ∀ (ws:List Str) (q:LS) (i f j:Int) (x3:Str) (t15 t16 t17:Tok) (lw:Addr) (x4:Str) (t18:Tok) (a:Str) (ta:Tok) (c:Str) (tc:Tok) (bs:List Value) (xs:List Str) (ec e2:Nat) (h:Heap) (N T:Nat),
      Yields w b X F ws q → TX bs xs → xs++(rH2 ws a c).1 = want → f + (rH2 ws a c).2 = fw → xs.length + ws.length ≤ 100 →
      Rep (cfg b w.params) S h₀ (LH2 w.params X aF it l lb sz k q i ws.length f j x3 t15 t16 t17 lw x4 t18 [.str a ta,.str c tc] bs ec e2) h → h.objs.size = N →
      codeAny (model PG w) A (flA130 aF it) R ⟨h,g,d,T,os⟩
  | [],q,i,f,j,x3,t15,t16,t17,lw,x4,t18,a,ta,c,tc,bs,xs,ec,e2,h,N,T,hy,hb,hw,hf,hl,D,hN=>by
    refine code_run O hz (h2z b w.params N T (fun _=>True) ⟨⟨0,0,0,0,[],0,[],0,x3,0⟩,trivial⟩ X aF it l lb lw q.n i sz 0 f j 0 q.S q.B bs a c x3 x3 x4 q.tn (k 0) (k 1) (k 2) (k 3) (k 4) (k 5) (k 6) (k 7) (k 8) (k 9) ta tc 0 0 0 t15 t16 t17 t18 (k 11) (k 12) q.e q.e1 e2 ec) D hN ?_
    intro h' D' hN' hq
    refine ⟨hq,block_nil (hend q i f j x3 t15 t16 t17 lw x4 t18 [.str a ta,.str c tc] bs ec e2 h' _ _ hy ?_ ?_ (Rep.sub D') hN')⟩
    · rw [← hw]; simpa [rH2] using hb
    · rw [← hf]; simp [rH2]
  | x :: ws,q,i,f,j,x3,t15,t16,t17,lw,x4,t18,a,ta,c,tc,bs,xs,ec,e2,h,N,T,hy,hb,hw,hf,hl,D,hN=>by
    obtain ⟨G,⟨g0⟩,hc,hG⟩:=hy N (T + 2)
    have hs:sizeLine = 16777216:=by decide
    have hbl:=hb.len
    have hm:¬ (((x :: ws).length:Nat):Int) ≤ 0:=by simp only [List.length_cons]; omega
    have em:(((x :: ws).length:Nat):Int) - 1 = (ws.length:Nat):=by simp
    cases hA1:sLt x a with
    | true=>
      refine code_run O hz (h2b b w.params N T G g0 X aF it l lb lw q.n i sz _ f j 0 q.S q.B bs a c x3 x3 x4 q.tn (k 0) (k 1) (k 2) (k 3) (k 4) (k 5) (k 6) (k 7) (k 8) (k 9) ta tc 0 0 0 t15 t16 t17 t18 (k 11) (k 12) q.e q.e1 e2 ec) D hN
        (HHx 5 ⟨⟨by decide,conRng hm⟩,fun _=>⟨by decide,hc.mono (bd hd rfl) (bd hu rfl)⟩,fun _ z2=>⟨by decide,conLe O (by rw [(hG z2.1 z2.2).1,hA1]; rfl)⟩,fun _ z2 _=>⟨by decide,(con_rep2 O).mono (bd hd rfl) (bd hu rfl)⟩,fun _ z2 _ z4=>⟨by decide,conAppend (by rw [hbl]; simp at hl; omega)⟩,fun _ _ _ _ _=>trivial,fun _ z2 _ z4 _=>?_⟩)
      intro h' D' hN' hq
      refine ⟨hq,?_⟩
      rw [em] at D'
      have hx:=(hG z2.1 z2.2).1
      cases hsp:sLt z2.1.x c with
      | true=>
        rw [hsp] at D'
        refine loop_h2 hz hd hu want fw hend ws z2.1.ls (i + 1) (f + 1) i z2.1.x _ T z2.1.t z2.1.N x4 t18 z2.1.x z2.1.t c tc _ (xs++[a]) _ _ h' _ _ (hG z2.1 z2.2).2 hb.snoc ?_ ?_ ?_ (Rep.sub D') hN'
        · rw [hx] at hsp ⊢; rw [← hw]; simp [rH2,hA1,hsp]
        · rw [hx] at hsp ⊢; rw [← hf]; simp [rH2,hA1,hsp]; omega
        · simp at hl ⊢; omega
      | false=>
        rw [hsp] at D'
        refine loop_h2 hz hd hu want fw hend ws z2.1.ls (i + 1) (f + 1) i z2.1.x _ T z2.1.t z2.1.N x4 t18 c tc z2.1.x z2.1.t _ (xs++[a]) _ _ h' _ _ (hG z2.1 z2.2).2 hb.snoc ?_ ?_ ?_ (Rep.sub D') hN'
        · rw [hx] at hsp ⊢; rw [← hw]; simp [rH2,hA1,hsp]
        · rw [hx] at hsp ⊢; rw [← hf]; simp [rH2,hA1,hsp]; omega
        · simp at hl ⊢; omega
    | false=>cases hA2:sLt x c with
      | true=>
        refine code_run O hz (h2m b w.params N T G g0 X aF it l lb lw q.n i sz _ f j 0 q.S q.B bs a c x3 x3 x4 q.tn (k 0) (k 1) (k 2) (k 3) (k 4) (k 5) (k 6) (k 7) (k 8) (k 9) ta tc 0 0 0 t15 t16 t17 t18 (k 11) (k 12) q.e q.e1 e2 ec) D hN
          (HHx 8 ⟨⟨by decide,conRng hm⟩,fun _=>⟨by decide,hc.mono (bd hd rfl) (bd hu rfl)⟩,fun _ z2=>⟨by decide,conLe O (by rw [(hG z2.1 z2.2).1,hA1]; rfl)⟩,fun _ z2 _=>⟨by decide,(con_pop2 O).mono (bd hd rfl) (bd hu rfl)⟩,fun _ z2 _ z4=>⟨by decide,conLe O (by rw [(hG z2.1 z2.2).1,hA2]; rfl)⟩,fun _ z2 _ z4 _=>⟨by decide,(con_rep1 O).mono (bd hd rfl) (bd hu rfl)⟩,fun _ z2 _ z4 _ z6=>⟨by decide,conAppend (by rw [hbl]; simp at hl; omega)⟩,fun _ z2 _ z4 _ z6 _=>⟨by decide,(con_push1 O).mono (bd hd rfl) (bd hu rfl)⟩,fun _ _ _ _ _ _ _ _=>trivial,fun _ z2 _ z4 _ z6 _ z8=>?_⟩)
        intro h' D' hN' hq
        refine ⟨hq,?_⟩
        rw [em] at D'
        have hx:=(hG z2.1 z2.2).1
        cases hsp:sLt a z2.1.x with
        | true=>
          rw [hsp] at D'
          refine loop_h2 hz hd hu want fw hend ws z2.1.ls (i + 1) (f + 1) i z2.1.x _ T z2.1.t z2.1.N a ta a ta z2.1.x z2.1.t _ (xs++[c]) _ _ h' _ _ (hG z2.1 z2.2).2 hb.snoc ?_ ?_ ?_ (Rep.sub D') hN'
          · rw [hx] at hsp ⊢; rw [← hw]; simp [rH2,hA1,hA2,hsp]
          · rw [hx] at hsp ⊢; rw [← hf]; simp [rH2,hA1,hA2,hsp]; omega
          · simp at hl ⊢; omega
        | false=>
          rw [hsp] at D'
          refine loop_h2 hz hd hu want fw hend ws z2.1.ls (i + 1) (f + 1) i z2.1.x _ T z2.1.t z2.1.N a ta z2.1.x z2.1.t a ta _ (xs++[c]) _ _ h' _ _ (hG z2.1 z2.2).2 hb.snoc ?_ ?_ ?_ (Rep.sub D') hN'
          · rw [hx] at hsp ⊢; rw [← hw]; simp [rH2,hA1,hA2,hsp]
          · rw [hx] at hsp ⊢; rw [← hf]; simp [rH2,hA1,hA2,hsp]; omega
          · simp at hl ⊢; omega
      | false=>
        refine code_run O hz (h2c b w.params N T G g0 X aF it l lb lw q.n i sz _ f j 0 q.S q.B bs a c x3 x3 x4 q.tn (k 0) (k 1) (k 2) (k 3) (k 4) (k 5) (k 6) (k 7) (k 8) (k 9) ta tc 0 0 0 t15 t16 t17 t18 (k 11) (k 12) q.e q.e1 e2 ec) D hN
          (HHx 9 ⟨⟨by decide,conRng hm⟩,fun _=>⟨by decide,hc.mono (bd hd rfl) (bd hu rfl)⟩,fun _ z2=>⟨by decide,conLe O (by rw [(hG z2.1 z2.2).1,hA1]; rfl)⟩,fun _ z2 _=>⟨by decide,(con_pop2 O).mono (bd hd rfl) (bd hu rfl)⟩,fun _ z2 _ z4=>⟨by decide,conLe O (by rw [(hG z2.1 z2.2).1,hA2]; rfl)⟩,fun _ z2 _ z4 _=>⟨by decide,(con_pop1 O).mono (bd hd rfl) (bd hu rfl)⟩,fun _ z2 _ z4 _ z6=>⟨by decide,conAppend (by rw [hbl]; simp at hl; omega)⟩,fun _ z2 _ z4 _ z6 _=>⟨by decide,(con_push0 O).mono (bd hd rfl) (bd hu rfl)⟩,fun _ z2 _ z4 _ z6 _ z8=>⟨by decide,(con_push1 O).mono (bd hd rfl) (bd hu rfl)⟩,fun _ _ _ _ _ _ _ _ _=>trivial,fun _ z2 _ z4 _ z6 _ z8 z9=>?_⟩)
        intro h' D' hN' hq
        refine ⟨hq,?_⟩
        rw [em] at D'
        have hx:=(hG z2.1 z2.2).1
        cases hsp:sLt c z2.1.x with
        | true=>
          rw [hsp] at D'
          refine loop_h2 hz hd hu want fw hend ws z2.1.ls (i + 1) f i z2.1.x t15 T z2.1.t z2.1.N c tc c tc z2.1.x z2.1.t _ (xs++[a]) _ _ h' _ _ (hG z2.1 z2.2).2 hb.snoc ?_ ?_ ?_ (Rep.sub D') hN'
          · rw [hx] at hsp ⊢; rw [← hw]; simp [rH2,hA1,hA2,hsp]
          · rw [hx] at hsp ⊢; rw [← hf]; simp [rH2,hA1,hA2,hsp]
          · simp at hl ⊢; omega
        | false=>
          rw [hsp] at D'
          refine loop_h2 hz hd hu want fw hend ws z2.1.ls (i + 1) f i z2.1.x t15 T z2.1.t z2.1.N c tc z2.1.x z2.1.t c tc _ (xs++[a]) _ _ h' _ _ (hG z2.1 z2.2).2 hb.snoc ?_ ?_ ?_ (Rep.sub D') hN'
          · rw [hx] at hsp ⊢; rw [← hw]; simp [rH2,hA1,hA2,hsp]
          · rw [hx] at hsp ⊢; rw [← hf]; simp [rH2,hA1,hA2,hsp]
          · simp at hl ⊢; omega
end
end Mine
end
section
namespace Mine
noncomputable def LR2 (P:Params) (X:LX) (aF it l lb:Addr) (sz:Int) (k:Nat → Tok) (q:LS) (i m f j:Int) (x3:Str) (t15 t16 t17:Tok) (pl:Int) (t18:Tok) (c bs:List Value) (ec e2:Nat):Led:=
  lexL P X q.n q.tn q.S q.e q.B q.e1++[(aF,(frm P [((sg [108,105,110,101]),k 0,(.ref X.a)),((sg [115,105,122,101]),k 1,(.int sz (k 11))),((sg [114,111,111,109]),k 2,(.int 2 (k 12))),((sg [99,97,114,114,105,101,114]),k 3,(.ref l)),((sg [98,111,120,101,115]),k 4,(.ref lb)),((sg [102,97,108,108,115]),k 5,(.int f t15)),((sg [116,117,114,110]),k 6,(.int j t16)),((sg [104,101,114,101]),k 7,(.str x3 t17)),((sg [112,108,97,99,101]),k 8,(.int pl t18))] 9)),(it,(fds "range_iterator" [(.int i 0),(.int m 0),(.int 1 0)])),(l,(lst c ec)),(lb,(lst bs e2))]
noncomputable def rR2:List Str → Str → Str → List Str × Int
  | [],_,_=>([],0)
  | h :: ws,a,c=>if sLt h c then (if sLt h a then (let r:=(if sLt h c then rR2 ws h c else rR2 ws c h); (a :: r.1,1 + r.2)) else (let r:=(if sLt h a then rR2 ws h a else rR2 ws a h); (c :: r.1,1 + r.2))) else (let r:=(if sLt h c then rR2 ws h c else rR2 ws c h); (a :: r.1,r.2))
section
variable {w:World} {b:Bool} (O:(cfg b w.params).Ok PG w)
include O
theorem con_bi2p {N T:Nat} {l:Addr} {x a c:Str} {t ta tc:Tok} {e:Nat} {p:Int} (hp:bis2 x a c = p) :
    CG w b 580 5800 (.call (.ref 67) ⟨[.ref l,.str x t],[]⟩) [(l,lst [.str a ta,.str c tc] e)] N T
      (fun z:Nat × Nat × Tok=>⟨.ret (.int p z.2.2),[lst [.str a ta,.str c tc] e],[],z.1,z.2.1⟩):=hp ▸ con_bi2 O
theorem loop_r2 {X:LX} {F:LS → Prop} {aF it l lb:Addr} {sz:Int} {k:Nat → Tok} {A:Around} {R:Result → Shared → Prop} {S:List Addr} {h₀:Heap} {g:Array GenState} {d:Drawn} {os:OsState}
    (hz:A.handled = none) (hd:A.depth ≤ 550) (hu:A.units ≤ 5500) (want:List Str) (fw:Int)
    (hend:∀ q i f j x3 t15 t16 t17 pl t18 c bs ec e2 h N T,F q → TX bs want → f = fw → Rep (cfg b w.params) S h₀ (LR2 w.params X aF it l lb sz k q i 0 f j x3 t15 t16 t17 pl t18 c bs ec e2) h → h.objs.size = N → R (.ok .next) ⟨h,g,d,T,os⟩) :
    ∀ (ws:List Str) (q:LS) (i f j:Int) (x3:Str) (t15 t16 t17:Tok) (pl:Int) (t18:Tok) (a:Str) (ta:Tok) (c:Str) (tc:Tok) (bs:List Value) (xs:List Str) (ec e2:Nat) (h:Heap) (N T:Nat),
      Yields w b X F ws q → TX bs xs → xs++(rR2 ws a c).1 = want → f + (rR2 ws a c).2 = fw → xs.length + ws.length ≤ 100 →
      Rep (cfg b w.params) S h₀ (LR2 w.params X aF it l lb sz k q i ws.length f j x3 t15 t16 t17 pl t18 [.str a ta,.str c tc] bs ec e2) h → h.objs.size = N →
      codeAny (model PG w) A (flA137 aF it) R ⟨h,g,d,T,os⟩
  | [],q,i,f,j,x3,t15,t16,t17,pl,t18,a,ta,c,tc,bs,xs,ec,e2,h,N,T,hy,hb,hw,hf,hl,D,hN=>by
    refine code_run O hz (r2z b w.params N T (fun _=>True) ⟨⟨0,0,0,0,[],0,[],0,x3,0⟩,trivial⟩ X aF it l lb 0 q.n i sz 0 f j pl q.S q.B bs a c x3 x3 x3 q.tn (k 0) (k 1) (k 2) (k 3) (k 4) (k 5) (k 6) (k 7) (k 8) 0 ta tc 0 0 0 t15 t16 t17 t18 (k 11) (k 12) q.e q.e1 e2 ec) D hN ?_
    intro h' D' hN' hq
    refine ⟨hq,block_nil (hend q i f j x3 t15 t16 t17 pl t18 [.str a ta,.str c tc] bs ec e2 h' _ _ hy ?_ ?_ (Rep.sub D') hN')⟩
    · rw [← hw]; simpa [rR2] using hb
    · rw [← hf]; simp [rR2]
  | x :: ws,q,i,f,j,x3,t15,t16,t17,pl,t18,a,ta,c,tc,bs,xs,ec,e2,h,N,T,hy,hb,hw,hf,hl,D,hN=>by
    obtain ⟨G,⟨g0⟩,hc,hG⟩:=hy N (T + 2)
    have hs:sizeLine = 16777216:=by decide
    have hbl:=hb.len
    have hm:¬ (((x :: ws).length:Nat):Int) ≤ 0:=by simp only [List.length_cons]; omega
    have em:(((x :: ws).length:Nat):Int) - 1 = (ws.length:Nat):=by simp
    cases h1:sLt x c with
    | true=>cases h2:sLt x a with
      | true=>
        refine code_run O hz (r2_0 b w.params N T G g0 X aF it l lb 0 q.n i sz _ f j pl q.S q.B bs a c x3 x3 x3 q.tn (k 0) (k 1) (k 2) (k 3) (k 4) (k 5) (k 6) (k 7) (k 8) 0 ta tc 0 0 0 t15 t16 t17 t18 (k 11) (k 12) q.e q.e1 e2 ec) D hN
          (HHx 5 ⟨⟨by decide,conRng hm⟩,fun _=>⟨by decide,hc.mono (bd hd rfl) (bd hu rfl)⟩,fun _ z2=>⟨by decide,(con_bi2p O (p:=0) (by rw [(hG z2.1 z2.2).1]; simp [bis2,h1,h2])).mono (bd hd rfl) (bd hu rfl)⟩,fun _ z2 z3=>⟨by decide,conAppend (by rw [hbl]; simp at hl; omega)⟩,fun _ z2 z3 _=>⟨by decide,(con_is1 O).mono (bd hd rfl) (bd hu rfl)⟩,fun _ _ _ _ _=>trivial,fun _ z2 z3 _ z5=>?_⟩)
        intro h' D' hN' hq
        refine ⟨hq,?_⟩
        rw [em] at D'
        have hx:=(hG z2.1 z2.2).1
        cases hsp:sLt z2.1.x c with
        | true=>
          rw [hsp] at D'
          refine loop_r2 hz hd hu want fw hend ws z2.1.ls (i + 1) (f + 1) i z2.1.x _ T z2.1.t _ _ z2.1.x z2.1.t c tc _ (xs++[a]) _ _ h' _ _ (hG z2.1 z2.2).2 hb.snoc ?_ ?_ ?_ D' hN'
          · rw [hx] at hsp ⊢; rw [← hw]; clear D' D hend hc hG hy hw hf; first | (simp [rR2,h1,h2,hsp]; done) | simp_all
          · rw [hx] at hsp ⊢; rw [← hf]; clear D' D hend hc hG hy hw hf; first | (simp [rR2,h1,h2,hsp]; done) | (simp [rR2,h1,h2,hsp]; omega) | simp_all
          · simp at hl ⊢; omega
        | false=>
          rw [hsp] at D'
          refine loop_r2 hz hd hu want fw hend ws z2.1.ls (i + 1) (f + 1) i z2.1.x _ T z2.1.t _ _ c tc z2.1.x z2.1.t _ (xs++[a]) _ _ h' _ _ (hG z2.1 z2.2).2 hb.snoc ?_ ?_ ?_ D' hN'
          · rw [hx] at hsp ⊢; rw [← hw]; clear D' D hend hc hG hy hw hf; first | (simp [rR2,h1,h2,hsp]; done) | simp_all
          · rw [hx] at hsp ⊢; rw [← hf]; clear D' D hend hc hG hy hw hf; first | (simp [rR2,h1,h2,hsp]; done) | (simp [rR2,h1,h2,hsp]; omega) | simp_all
          · simp at hl ⊢; omega
      | false=>
        refine code_run O hz (r2_1 b w.params N T G g0 X aF it l lb 0 q.n i sz _ f j pl q.S q.B bs a c x3 x3 x3 q.tn (k 0) (k 1) (k 2) (k 3) (k 4) (k 5) (k 6) (k 7) (k 8) 0 ta tc 0 0 0 t15 t16 t17 t18 (k 11) (k 12) q.e q.e1 e2 ec) D hN
          (HHx 5 ⟨⟨by decide,conRng hm⟩,fun _=>⟨by decide,hc.mono (bd hd rfl) (bd hu rfl)⟩,fun _ z2=>⟨by decide,(con_bi2p O (p:=1) (by rw [(hG z2.1 z2.2).1]; simp [bis2,h1,h2])).mono (bd hd rfl) (bd hu rfl)⟩,fun _ z2 z3=>⟨by decide,conAppend (by rw [hbl]; simp at hl; omega)⟩,fun _ z2 z3 _=>⟨by decide,(con_is1 O).mono (bd hd rfl) (bd hu rfl)⟩,fun _ _ _ _ _=>trivial,fun _ z2 z3 _ z5=>?_⟩)
        intro h' D' hN' hq
        refine ⟨hq,?_⟩
        rw [em] at D'
        have hx:=(hG z2.1 z2.2).1
        cases hsp:sLt z2.1.x a with
        | true=>
          rw [hsp] at D'
          refine loop_r2 hz hd hu want fw hend ws z2.1.ls (i + 1) (f + 1) i z2.1.x _ T z2.1.t _ _ z2.1.x z2.1.t a ta _ (xs++[c]) _ _ h' _ _ (hG z2.1 z2.2).2 hb.snoc ?_ ?_ ?_ D' hN'
          · rw [hx] at hsp ⊢; rw [← hw]; clear D' D hend hc hG hy hw hf; first | (simp [rR2,h1,h2,hsp]; done) | simp_all
          · rw [hx] at hsp ⊢; rw [← hf]; clear D' D hend hc hG hy hw hf; first | (simp [rR2,h1,h2,hsp]; done) | (simp [rR2,h1,h2,hsp]; omega) | simp_all
          · simp at hl ⊢; omega
        | false=>
          rw [hsp] at D'
          refine loop_r2 hz hd hu want fw hend ws z2.1.ls (i + 1) (f + 1) i z2.1.x _ T z2.1.t _ _ a ta z2.1.x z2.1.t _ (xs++[c]) _ _ h' _ _ (hG z2.1 z2.2).2 hb.snoc ?_ ?_ ?_ D' hN'
          · rw [hx] at hsp ⊢; rw [← hw]; clear D' D hend hc hG hy hw hf; first | (simp [rR2,h1,h2,hsp]; done) | simp_all
          · rw [hx] at hsp ⊢; rw [← hf]; clear D' D hend hc hG hy hw hf; first | (simp [rR2,h1,h2,hsp]; done) | (simp [rR2,h1,h2,hsp]; omega) | simp_all
          · simp at hl ⊢; omega
    | false=>
      refine code_run O hz (r2_2 b w.params N T G g0 X aF it l lb 0 q.n i sz _ f j pl q.S q.B bs a c x3 x3 x3 q.tn (k 0) (k 1) (k 2) (k 3) (k 4) (k 5) (k 6) (k 7) (k 8) 0 ta tc 0 0 0 t15 t16 t17 t18 (k 11) (k 12) q.e q.e1 e2 ec) D hN
        (HHx 5 ⟨⟨by decide,conRng hm⟩,fun _=>⟨by decide,hc.mono (bd hd rfl) (bd hu rfl)⟩,fun _ z2=>⟨by decide,(con_bi2p O (p:=2) (by rw [(hG z2.1 z2.2).1]; simp [bis2,h1])).mono (bd hd rfl) (bd hu rfl)⟩,fun _ z2 z3=>⟨by decide,conAppend (by rw [hbl]; simp at hl; omega)⟩,fun _ z2 z3 _=>⟨by decide,(con_is1 O).mono (bd hd rfl) (bd hu rfl)⟩,fun _ _ _ _ _=>trivial,fun _ z2 z3 _ z5=>?_⟩)
      intro h' D' hN' hq
      refine ⟨hq,?_⟩
      rw [em] at D'
      have hx:=(hG z2.1 z2.2).1
      cases hsp:sLt z2.1.x c with
      | true=>
        rw [hsp] at D'
        refine loop_r2 hz hd hu want fw hend ws z2.1.ls (i + 1) f i z2.1.x _ T z2.1.t _ _ z2.1.x z2.1.t c tc _ (xs++[a]) _ _ h' _ _ (hG z2.1 z2.2).2 hb.snoc ?_ ?_ ?_ D' hN'
        · rw [hx] at hsp ⊢; rw [← hw]; clear D' D hend hc hG hy hw hf; first | (simp [rR2,h1,hsp]; done) | simp_all
        · rw [hx] at hsp ⊢; rw [← hf]; clear D' D hend hc hG hy hw hf; first | (simp [rR2,h1,hsp]; done) | (simp [rR2,h1,hsp]; omega) | simp_all
        · simp at hl ⊢; omega
      | false=>
        rw [hsp] at D'
        refine loop_r2 hz hd hu want fw hend ws z2.1.ls (i + 1) f i z2.1.x _ T z2.1.t _ _ c tc z2.1.x z2.1.t _ (xs++[a]) _ _ h' _ _ (hG z2.1 z2.2).2 hb.snoc ?_ ?_ ?_ D' hN'
        · rw [hx] at hsp ⊢; rw [← hw]; clear D' D hend hc hG hy hw hf; first | (simp [rR2,h1,hsp]; done) | simp_all
        · rw [hx] at hsp ⊢; rw [← hf]; clear D' D hend hc hG hy hw hf; first | (simp [rR2,h1,hsp]; done) | (simp [rR2,h1,hsp]; omega) | simp_all
        · simp at hl ⊢; omega
end
noncomputable def LR3 (P:Params) (X:LX) (aF it l lb:Addr) (sz:Int) (k:Nat → Tok) (q:LS) (i m f j:Int) (x3:Str) (t15 t16 t17:Tok) (pl:Int) (t18:Tok) (c bs:List Value) (ec e2:Nat):Led:=
  lexL P X q.n q.tn q.S q.e q.B q.e1++[(aF,(frm P [((sg [108,105,110,101]),k 0,(.ref X.a)),((sg [115,105,122,101]),k 1,(.int sz (k 11))),((sg [114,111,111,109]),k 2,(.int 3 (k 12))),((sg [99,97,114,114,105,101,114]),k 3,(.ref l)),((sg [98,111,120,101,115]),k 4,(.ref lb)),((sg [102,97,108,108,115]),k 5,(.int f t15)),((sg [116,117,114,110]),k 6,(.int j t16)),((sg [104,101,114,101]),k 7,(.str x3 t17)),((sg [112,108,97,99,101]),k 8,(.int pl t18))] 9)),(it,(fds "range_iterator" [(.int i 0),(.int m 0),(.int 1 0)])),(l,(lst c ec)),(lb,(lst bs e2))]
noncomputable def rR3:List Str → Str → Str → Str → List Str × Int
  | [],_,_,_=>([],0)
  | h :: ws,a,c,y=>if sLt h c then (if sLt h a then (let r:=(if sLt h y then (if sLt h c then rR3 ws h c y else rR3 ws c h y) else rR3 ws c y h); (a :: r.1,1 + r.2)) else (let r:=(if sLt h y then (if sLt h a then rR3 ws h a y else rR3 ws a h y) else rR3 ws a y h); (c :: r.1,1 + r.2))) else (if sLt h y then (let r:=(if sLt h c then (if sLt h a then rR3 ws h a c else rR3 ws a h c) else rR3 ws a c h); (y :: r.1,1 + r.2)) else (let r:=(if sLt h y then (if sLt h c then rR3 ws h c y else rR3 ws c h y) else rR3 ws c y h); (a :: r.1,r.2)))
section
variable {w:World} {b:Bool} (O:(cfg b w.params).Ok PG w)
include O
theorem con_bi3p {N T:Nat} {l:Addr} {x a c y:Str} {t ta tc ty:Tok} {e:Nat} {p:Int} (hp:bis3 x a c y = p) :
    CG w b 580 5800 (.call (.ref 67) ⟨[.ref l,.str x t],[]⟩) [(l,lst [.str a ta,.str c tc,.str y ty] e)] N T
      (fun z:Nat × Nat × Tok=>⟨.ret (.int p z.2.2),[lst [.str a ta,.str c tc,.str y ty] e],[],z.1,z.2.1⟩):=hp ▸ con_bi3 O
theorem loop_r3 {X:LX} {F:LS → Prop} {aF it l lb:Addr} {sz:Int} {k:Nat → Tok} {A:Around} {R:Result → Shared → Prop} {S:List Addr} {h₀:Heap} {g:Array GenState} {d:Drawn} {os:OsState}
    (hz:A.handled = none) (hd:A.depth ≤ 550) (hu:A.units ≤ 5500) (want:List Str) (fw:Int)
    (hend:∀ q i f j x3 t15 t16 t17 pl t18 c bs ec e2 h N T,F q → TX bs want → f = fw → Rep (cfg b w.params) S h₀ (LR3 w.params X aF it l lb sz k q i 0 f j x3 t15 t16 t17 pl t18 c bs ec e2) h → h.objs.size = N → R (.ok .next) ⟨h,g,d,T,os⟩) :
    ∀ (ws:List Str) (q:LS) (i f j:Int) (x3:Str) (t15 t16 t17:Tok) (pl:Int) (t18:Tok) (a:Str) (ta:Tok) (c:Str) (tc:Tok) (y:Str) (ty:Tok) (bs:List Value) (xs:List Str) (ec e2:Nat) (h:Heap) (N T:Nat),
      Yields w b X F ws q → TX bs xs → xs++(rR3 ws a c y).1 = want → f + (rR3 ws a c y).2 = fw → xs.length + ws.length ≤ 100 →
      Rep (cfg b w.params) S h₀ (LR3 w.params X aF it l lb sz k q i ws.length f j x3 t15 t16 t17 pl t18 [.str a ta,.str c tc,.str y ty] bs ec e2) h → h.objs.size = N →
      codeAny (model PG w) A (flA137 aF it) R ⟨h,g,d,T,os⟩
  | [],q,i,f,j,x3,t15,t16,t17,pl,t18,a,ta,c,tc,y,ty,bs,xs,ec,e2,h,N,T,hy,hb,hw,hf,hl,D,hN=>by
    refine code_run O hz (r3z b w.params N T (fun _=>True) ⟨⟨0,0,0,0,[],0,[],0,x3,0⟩,trivial⟩ X aF it l lb 0 q.n i sz 0 f j pl q.S q.B bs a c y x3 x3 q.tn (k 0) (k 1) (k 2) (k 3) (k 4) (k 5) (k 6) (k 7) (k 8) 0 ta tc ty 0 0 t15 t16 t17 t18 (k 11) (k 12) q.e q.e1 e2 ec) D hN ?_
    intro h' D' hN' hq
    refine ⟨hq,block_nil (hend q i f j x3 t15 t16 t17 pl t18 [.str a ta,.str c tc,.str y ty] bs ec e2 h' _ _ hy ?_ ?_ (Rep.sub D') hN')⟩
    · rw [← hw]; simpa [rR3] using hb
    · rw [← hf]; simp [rR3]
  | x :: ws,q,i,f,j,x3,t15,t16,t17,pl,t18,a,ta,c,tc,y,ty,bs,xs,ec,e2,h,N,T,hy,hb,hw,hf,hl,D,hN=>by
    obtain ⟨G,⟨g0⟩,hc,hG⟩:=hy N (T + 2)
    have hs:sizeLine = 16777216:=by decide
    have hbl:=hb.len
    have hm:¬ (((x :: ws).length:Nat):Int) ≤ 0:=by simp only [List.length_cons]; omega
    have em:(((x :: ws).length:Nat):Int) - 1 = (ws.length:Nat):=by simp
    cases h1:sLt x c with
    | true=>cases h2:sLt x a with
      | true=>
        refine code_run O hz (r3_0 b w.params N T G g0 X aF it l lb 0 q.n i sz _ f j pl q.S q.B bs a c y x3 x3 q.tn (k 0) (k 1) (k 2) (k 3) (k 4) (k 5) (k 6) (k 7) (k 8) 0 ta tc ty 0 0 t15 t16 t17 t18 (k 11) (k 12) q.e q.e1 e2 ec) D hN
          (HHx 5 ⟨⟨by decide,conRng hm⟩,fun _=>⟨by decide,hc.mono (bd hd rfl) (bd hu rfl)⟩,fun _ z2=>⟨by decide,(con_bi3p O (p:=0) (by rw [(hG z2.1 z2.2).1]; simp [bis3,h1,h2])).mono (bd hd rfl) (bd hu rfl)⟩,fun _ z2 z3=>⟨by decide,conAppend (by rw [hbl]; simp at hl; omega)⟩,fun _ z2 z3 _=>⟨by decide,(con_is2 O).mono (bd hd rfl) (bd hu rfl)⟩,fun _ _ _ _ _=>trivial,fun _ z2 z3 _ z5=>?_⟩)
        intro h' D' hN' hq
        refine ⟨hq,?_⟩
        rw [em] at D'
        have hx:=(hG z2.1 z2.2).1
        cases hsp:sLt z2.1.x y with
        | true=>
          rw [hsp] at D'
          cases hsq:sLt z2.1.x c with
          | true=>
            rw [hsq] at D'
            refine loop_r3 hz hd hu want fw hend ws z2.1.ls (i + 1) (f + 1) i z2.1.x _ T z2.1.t _ _ z2.1.x z2.1.t c tc y ty _ (xs++[a]) _ _ h' _ _ (hG z2.1 z2.2).2 hb.snoc ?_ ?_ ?_ D' hN'
            · rw [hx] at hsp hsq ⊢; rw [← hw]; clear D' D hend hc hG hy hw hf; first | (simp [rR3,h1,h2,hsp,hsq]; done) | simp_all
            · rw [hx] at hsp hsq ⊢; rw [← hf]; clear D' D hend hc hG hy hw hf; first | (simp [rR3,h1,h2,hsp,hsq]; done) | (simp [rR3,h1,h2,hsp,hsq]; omega) | simp_all
            · simp at hl ⊢; omega
          | false=>
            rw [hsq] at D'
            refine loop_r3 hz hd hu want fw hend ws z2.1.ls (i + 1) (f + 1) i z2.1.x _ T z2.1.t _ _ c tc z2.1.x z2.1.t y ty _ (xs++[a]) _ _ h' _ _ (hG z2.1 z2.2).2 hb.snoc ?_ ?_ ?_ D' hN'
            · rw [hx] at hsp hsq ⊢; rw [← hw]; clear D' D hend hc hG hy hw hf; first | (simp [rR3,h1,h2,hsp,hsq]; done) | simp_all
            · rw [hx] at hsp hsq ⊢; rw [← hf]; clear D' D hend hc hG hy hw hf; first | (simp [rR3,h1,h2,hsp,hsq]; done) | (simp [rR3,h1,h2,hsp,hsq]; omega) | simp_all
            · simp at hl ⊢; omega
        | false=>
          rw [hsp] at D'
          refine loop_r3 hz hd hu want fw hend ws z2.1.ls (i + 1) (f + 1) i z2.1.x _ T z2.1.t _ _ c tc y ty z2.1.x z2.1.t _ (xs++[a]) _ _ h' _ _ (hG z2.1 z2.2).2 hb.snoc ?_ ?_ ?_ D' hN'
          · rw [hx] at hsp ⊢; rw [← hw]; clear D' D hend hc hG hy hw hf; first | (simp [rR3,h1,h2,hsp]; done) | simp_all
          · rw [hx] at hsp ⊢; rw [← hf]; clear D' D hend hc hG hy hw hf; first | (simp [rR3,h1,h2,hsp]; done) | (simp [rR3,h1,h2,hsp]; omega) | simp_all
          · simp at hl ⊢; omega
      | false=>
        refine code_run O hz (r3_1 b w.params N T G g0 X aF it l lb 0 q.n i sz _ f j pl q.S q.B bs a c y x3 x3 q.tn (k 0) (k 1) (k 2) (k 3) (k 4) (k 5) (k 6) (k 7) (k 8) 0 ta tc ty 0 0 t15 t16 t17 t18 (k 11) (k 12) q.e q.e1 e2 ec) D hN
          (HHx 5 ⟨⟨by decide,conRng hm⟩,fun _=>⟨by decide,hc.mono (bd hd rfl) (bd hu rfl)⟩,fun _ z2=>⟨by decide,(con_bi3p O (p:=1) (by rw [(hG z2.1 z2.2).1]; simp [bis3,h1,h2])).mono (bd hd rfl) (bd hu rfl)⟩,fun _ z2 z3=>⟨by decide,conAppend (by rw [hbl]; simp at hl; omega)⟩,fun _ z2 z3 _=>⟨by decide,(con_is2 O).mono (bd hd rfl) (bd hu rfl)⟩,fun _ _ _ _ _=>trivial,fun _ z2 z3 _ z5=>?_⟩)
        intro h' D' hN' hq
        refine ⟨hq,?_⟩
        rw [em] at D'
        have hx:=(hG z2.1 z2.2).1
        cases hsp:sLt z2.1.x y with
        | true=>
          rw [hsp] at D'
          cases hsq:sLt z2.1.x a with
          | true=>
            rw [hsq] at D'
            refine loop_r3 hz hd hu want fw hend ws z2.1.ls (i + 1) (f + 1) i z2.1.x _ T z2.1.t _ _ z2.1.x z2.1.t a ta y ty _ (xs++[c]) _ _ h' _ _ (hG z2.1 z2.2).2 hb.snoc ?_ ?_ ?_ D' hN'
            · rw [hx] at hsp hsq ⊢; rw [← hw]; clear D' D hend hc hG hy hw hf; first | (simp [rR3,h1,h2,hsp,hsq]; done) | simp_all
            · rw [hx] at hsp hsq ⊢; rw [← hf]; clear D' D hend hc hG hy hw hf; first | (simp [rR3,h1,h2,hsp,hsq]; done) | (simp [rR3,h1,h2,hsp,hsq]; omega) | simp_all
            · simp at hl ⊢; omega
          | false=>
            rw [hsq] at D'
            refine loop_r3 hz hd hu want fw hend ws z2.1.ls (i + 1) (f + 1) i z2.1.x _ T z2.1.t _ _ a ta z2.1.x z2.1.t y ty _ (xs++[c]) _ _ h' _ _ (hG z2.1 z2.2).2 hb.snoc ?_ ?_ ?_ D' hN'
            · rw [hx] at hsp hsq ⊢; rw [← hw]; clear D' D hend hc hG hy hw hf; first | (simp [rR3,h1,h2,hsp,hsq]; done) | simp_all
            · rw [hx] at hsp hsq ⊢; rw [← hf]; clear D' D hend hc hG hy hw hf; first | (simp [rR3,h1,h2,hsp,hsq]; done) | (simp [rR3,h1,h2,hsp,hsq]; omega) | simp_all
            · simp at hl ⊢; omega
        | false=>
          rw [hsp] at D'
          refine loop_r3 hz hd hu want fw hend ws z2.1.ls (i + 1) (f + 1) i z2.1.x _ T z2.1.t _ _ a ta y ty z2.1.x z2.1.t _ (xs++[c]) _ _ h' _ _ (hG z2.1 z2.2).2 hb.snoc ?_ ?_ ?_ D' hN'
          · rw [hx] at hsp ⊢; rw [← hw]; clear D' D hend hc hG hy hw hf; first | (simp [rR3,h1,h2,hsp]; done) | simp_all
          · rw [hx] at hsp ⊢; rw [← hf]; clear D' D hend hc hG hy hw hf; first | (simp [rR3,h1,h2,hsp]; done) | (simp [rR3,h1,h2,hsp]; omega) | simp_all
          · simp at hl ⊢; omega
    | false=>cases h2:sLt x y with
      | true=>
        refine code_run O hz (r3_2 b w.params N T G g0 X aF it l lb 0 q.n i sz _ f j pl q.S q.B bs a c y x3 x3 q.tn (k 0) (k 1) (k 2) (k 3) (k 4) (k 5) (k 6) (k 7) (k 8) 0 ta tc ty 0 0 t15 t16 t17 t18 (k 11) (k 12) q.e q.e1 e2 ec) D hN
          (HHx 5 ⟨⟨by decide,conRng hm⟩,fun _=>⟨by decide,hc.mono (bd hd rfl) (bd hu rfl)⟩,fun _ z2=>⟨by decide,(con_bi3p O (p:=2) (by rw [(hG z2.1 z2.2).1]; simp [bis3,h1,h2])).mono (bd hd rfl) (bd hu rfl)⟩,fun _ z2 z3=>⟨by decide,conAppend (by rw [hbl]; simp at hl; omega)⟩,fun _ z2 z3 _=>⟨by decide,(con_is2 O).mono (bd hd rfl) (bd hu rfl)⟩,fun _ _ _ _ _=>trivial,fun _ z2 z3 _ z5=>?_⟩)
        intro h' D' hN' hq
        refine ⟨hq,?_⟩
        rw [em] at D'
        have hx:=(hG z2.1 z2.2).1
        cases hsp:sLt z2.1.x c with
        | true=>
          rw [hsp] at D'
          cases hsq:sLt z2.1.x a with
          | true=>
            rw [hsq] at D'
            refine loop_r3 hz hd hu want fw hend ws z2.1.ls (i + 1) (f + 1) i z2.1.x _ T z2.1.t _ _ z2.1.x z2.1.t a ta c tc _ (xs++[y]) _ _ h' _ _ (hG z2.1 z2.2).2 hb.snoc ?_ ?_ ?_ D' hN'
            · rw [hx] at hsp hsq ⊢; rw [← hw]; clear D' D hend hc hG hy hw hf; first | (simp [rR3,h1,h2,hsp,hsq]; done) | simp_all
            · rw [hx] at hsp hsq ⊢; rw [← hf]; clear D' D hend hc hG hy hw hf; first | (simp [rR3,h1,h2,hsp,hsq]; done) | (simp [rR3,h1,h2,hsp,hsq]; omega) | simp_all
            · simp at hl ⊢; omega
          | false=>
            rw [hsq] at D'
            refine loop_r3 hz hd hu want fw hend ws z2.1.ls (i + 1) (f + 1) i z2.1.x _ T z2.1.t _ _ a ta z2.1.x z2.1.t c tc _ (xs++[y]) _ _ h' _ _ (hG z2.1 z2.2).2 hb.snoc ?_ ?_ ?_ D' hN'
            · rw [hx] at hsp hsq ⊢; rw [← hw]; clear D' D hend hc hG hy hw hf; first | (simp [rR3,h1,h2,hsp,hsq]; done) | simp_all
            · rw [hx] at hsp hsq ⊢; rw [← hf]; clear D' D hend hc hG hy hw hf; first | (simp [rR3,h1,h2,hsp,hsq]; done) | (simp [rR3,h1,h2,hsp,hsq]; omega) | simp_all
            · simp at hl ⊢; omega
        | false=>
          rw [hsp] at D'
          refine loop_r3 hz hd hu want fw hend ws z2.1.ls (i + 1) (f + 1) i z2.1.x _ T z2.1.t _ _ a ta c tc z2.1.x z2.1.t _ (xs++[y]) _ _ h' _ _ (hG z2.1 z2.2).2 hb.snoc ?_ ?_ ?_ D' hN'
          · rw [hx] at hsp ⊢; rw [← hw]; clear D' D hend hc hG hy hw hf; first | (simp [rR3,h1,h2,hsp]; done) | simp_all
          · rw [hx] at hsp ⊢; rw [← hf]; clear D' D hend hc hG hy hw hf; first | (simp [rR3,h1,h2,hsp]; done) | (simp [rR3,h1,h2,hsp]; omega) | simp_all
          · simp at hl ⊢; omega
      | false=>
        refine code_run O hz (r3_3 b w.params N T G g0 X aF it l lb 0 q.n i sz _ f j pl q.S q.B bs a c y x3 x3 q.tn (k 0) (k 1) (k 2) (k 3) (k 4) (k 5) (k 6) (k 7) (k 8) 0 ta tc ty 0 0 t15 t16 t17 t18 (k 11) (k 12) q.e q.e1 e2 ec) D hN
          (HHx 5 ⟨⟨by decide,conRng hm⟩,fun _=>⟨by decide,hc.mono (bd hd rfl) (bd hu rfl)⟩,fun _ z2=>⟨by decide,(con_bi3p O (p:=3) (by rw [(hG z2.1 z2.2).1]; simp [bis3,h1,h2])).mono (bd hd rfl) (bd hu rfl)⟩,fun _ z2 z3=>⟨by decide,conAppend (by rw [hbl]; simp at hl; omega)⟩,fun _ z2 z3 _=>⟨by decide,(con_is2 O).mono (bd hd rfl) (bd hu rfl)⟩,fun _ _ _ _ _=>trivial,fun _ z2 z3 _ z5=>?_⟩)
        intro h' D' hN' hq
        refine ⟨hq,?_⟩
        rw [em] at D'
        have hx:=(hG z2.1 z2.2).1
        cases hsp:sLt z2.1.x y with
        | true=>
          rw [hsp] at D'
          cases hsq:sLt z2.1.x c with
          | true=>
            rw [hsq] at D'
            refine loop_r3 hz hd hu want fw hend ws z2.1.ls (i + 1) f i z2.1.x _ T z2.1.t _ _ z2.1.x z2.1.t c tc y ty _ (xs++[a]) _ _ h' _ _ (hG z2.1 z2.2).2 hb.snoc ?_ ?_ ?_ D' hN'
            · rw [hx] at hsp hsq ⊢; rw [← hw]; clear D' D hend hc hG hy hw hf; first | (simp [rR3,h1,h2,hsp,hsq]; done) | simp_all
            · rw [hx] at hsp hsq ⊢; rw [← hf]; clear D' D hend hc hG hy hw hf; first | (simp [rR3,h1,h2,hsp,hsq]; done) | (simp [rR3,h1,h2,hsp,hsq]; omega) | simp_all
            · simp at hl ⊢; omega
          | false=>
            rw [hsq] at D'
            refine loop_r3 hz hd hu want fw hend ws z2.1.ls (i + 1) f i z2.1.x _ T z2.1.t _ _ c tc z2.1.x z2.1.t y ty _ (xs++[a]) _ _ h' _ _ (hG z2.1 z2.2).2 hb.snoc ?_ ?_ ?_ D' hN'
            · rw [hx] at hsp hsq ⊢; rw [← hw]; clear D' D hend hc hG hy hw hf; first | (simp [rR3,h1,h2,hsp,hsq]; done) | simp_all
            · rw [hx] at hsp hsq ⊢; rw [← hf]; clear D' D hend hc hG hy hw hf; first | (simp [rR3,h1,h2,hsp,hsq]; done) | (simp [rR3,h1,h2,hsp,hsq]; omega) | simp_all
            · simp at hl ⊢; omega
        | false=>
          rw [hsp] at D'
          refine loop_r3 hz hd hu want fw hend ws z2.1.ls (i + 1) f i z2.1.x _ T z2.1.t _ _ c tc y ty z2.1.x z2.1.t _ (xs++[a]) _ _ h' _ _ (hG z2.1 z2.2).2 hb.snoc ?_ ?_ ?_ D' hN'
          · rw [hx] at hsp ⊢; rw [← hw]; clear D' D hend hc hG hy hw hf; first | (simp [rR3,h1,h2,hsp]; done) | simp_all
          · rw [hx] at hsp ⊢; rw [← hf]; clear D' D hend hc hG hy hw hf; first | (simp [rR3,h1,h2,hsp]; done) | (simp [rR3,h1,h2,hsp]; omega) | simp_all
          · simp at hl ⊢; omega
end
end Mine
end
section
namespace Mine
noncomputable def LF (P:Params) (X:LX) (aF it l lb:Addr) (sz room:Int) (k:Nat → Tok) (q:LS) (i m f:Int) (t15:Tok) (c bs:List Value) (ec e2:Nat):Led:=
  lexL P X q.n q.tn q.S q.e q.B q.e1++[(aF,(frm P [((sg [108,105,110,101]),k 0,(.ref X.a)),((sg [115,105,122,101]),k 1,(.int sz (k 11))),((sg [114,111,111,109]),k 2,(.int room (k 12))),((sg [99,97,114,114,105,101,114]),k 3,(.ref l)),((sg [98,111,120,101,115]),k 4,(.ref lb)),((sg [102,97,108,108,115]),k 5,(.int f t15))] 6)),(it,(fds "range_iterator" [(.int i 0),(.int m 0),(.int 1 0)])),(l,(lst c ec)),(lb,(lst bs e2))]
theorem sLt_nil (x:Str):sLt x (sg []) = false:=by simp [sLt,sg]
noncomputable def kF (k:Nat → Tok) (a b c d:Tok) (i:Nat):Tok:=match i with | 6=>a | 7=>b | 8=>c | 9=>d | i=>k i
section
variable {w:World} {b:Bool} (O:(cfg b w.params).Ok PG w)
include O
theorem first_h1 {X:LX} {F:LS → Prop} {aF it l lb:Addr} {sz:Int} {k:Nat → Tok} {A:Around} {R:Result → Shared → Prop} {S:List Addr} {h₀:Heap} {g:Array GenState} {d:Drawn} {os:OsState}
    (hz:A.handled = none) (hd:A.depth ≤ 550) (hu:A.units ≤ 5500) {x:Str} {ws:List Str} {q:LS} {i f:Int} {t15 ta:Tok} {ec e2:Nat} {h:Heap} {N T:Nat}
    (hend:∀ k q i f j x3 t15 t16 t17 lw c bs ec e2 h N T,F q → TX bs (rH1 (x :: ws) (sg [])).1 → f = (rH1 (x :: ws) (sg [])).2 → Rep (cfg b w.params) S h₀ (LH1 w.params X aF it l lb sz k q i 0 f j x3 t15 t16 t17 lw c bs ec e2) h → h.objs.size = N → R (.ok .next) ⟨h,g,d,T,os⟩)
    (hy:Yields w b X F (x :: ws) q) (hl:ws.length < 100) (D:Rep (cfg b w.params) S h₀ (LF w.params X aF it l lb sz 1 k q i (x :: ws).length 0 t15 [.str (sg []) ta] [] ec e2) h) (hN:h.objs.size = N) :
    codeAny (model PG w) A (flA130 aF it) R ⟨h,g,d,T,os⟩:=by
  obtain ⟨G,⟨g0⟩,hc,hG⟩:=hy N (T + 2)
  have hm:¬ (((x :: ws).length:Nat):Int) ≤ 0:=by simp only [List.length_cons]; omega
  have em:(((x :: ws).length:Nat):Int) - 1 = (ws.length:Nat):=by simp
  refine code_run O hz (h1s b w.params N T G g0 X aF it l lb 0 q.n i sz _ 0 0 0 q.S q.B [] (sg []) x x x x q.tn (k 0) (k 1) (k 2) (k 3) (k 4) (k 5) 0 0 0 0 ta 0 0 0 0 t15 0 0 0 (k 11) (k 12) q.e q.e1 e2 ec) D hN
    (HHx 6 ⟨⟨by decide,conRng hm⟩,fun _=>⟨by decide,hc.mono (bd hd rfl) (bd hu rfl)⟩,fun _ z2=>⟨by decide,conLe O (by rw [sLt_nil]; rfl)⟩,fun _ z2 _=>⟨by decide,(con_pop1 O).mono (bd hd rfl) (bd hu rfl)⟩,fun _ z2 _ z4=>⟨by decide,conAppend (by decide)⟩,fun _ z2 _ z4 _=>⟨by decide,(con_push0 O).mono (bd hd rfl) (bd hu rfl)⟩,fun _ _ _ _ _ _=>trivial,fun _ z2 _ z4 _ z6=>?_⟩)
  intro h' D' hN' hq
  refine ⟨hq,?_⟩
  rw [em] at D'
  have hx:=(hG z2.1 z2.2).1
  refine loop_h1 O (k:=kF k (T + 1) z2.1.T (z2.1.T + 1) 0) hz hd hu _ _ (hend _) ws z2.1.ls (i + 1) 0 i z2.1.x t15 T z2.1.t z2.1.N z2.1.x z2.1.t _ [sg []] _ _ h' _ _ (hG z2.1 z2.2).2 (TX.snoc (xs:=[]) ⟨[],rfl,rfl⟩) ?_ ?_ ?_ (Rep.sub D') hN'
  · rw [hx]; simp [rH1]
  · rw [hx]; simp [rH1,sLt_nil]
  · simp; omega
theorem first_h2 {X:LX} {F:LS → Prop} {aF it l lb:Addr} {sz:Int} {k:Nat → Tok} {A:Around} {R:Result → Shared → Prop} {S:List Addr} {h₀:Heap} {g:Array GenState} {d:Drawn} {os:OsState}
    (hz:A.handled = none) (hd:A.depth ≤ 550) (hu:A.units ≤ 5500) {x:Str} {ws:List Str} {q:LS} {i f:Int} {t15 ta tc:Tok} {ec e2:Nat} {h:Heap} {N T:Nat}
    (hend:∀ k q i f j x3 t15 t16 t17 lw x4 t18 c bs ec e2 h N T,F q → TX bs (rH2 (x :: ws) (sg []) (sg [])).1 → f = (rH2 (x :: ws) (sg []) (sg [])).2 → Rep (cfg b w.params) S h₀ (LH2 w.params X aF it l lb sz k q i 0 f j x3 t15 t16 t17 lw x4 t18 c bs ec e2) h → h.objs.size = N → R (.ok .next) ⟨h,g,d,T,os⟩)
    (hy:Yields w b X F (x :: ws) q) (hl:ws.length < 100) (D:Rep (cfg b w.params) S h₀ (LF w.params X aF it l lb sz 2 k q i (x :: ws).length 0 t15 [.str (sg []) ta,.str (sg []) tc] [] ec e2) h) (hN:h.objs.size = N) :
    codeAny (model PG w) A (flA130 aF it) R ⟨h,g,d,T,os⟩:=by
  obtain ⟨G,⟨g0⟩,hc,hG⟩:=hy N (T + 2)
  have hm:¬ (((x :: ws).length:Nat):Int) ≤ 0:=by simp only [List.length_cons]; omega
  have em:(((x :: ws).length:Nat):Int) - 1 = (ws.length:Nat):=by simp
  refine code_run O hz (h2s b w.params N T G g0 X aF it l lb 0 q.n i sz _ 0 0 0 q.S q.B [] (sg []) (sg []) x x x q.tn (k 0) (k 1) (k 2) (k 3) (k 4) (k 5) 0 0 0 0 ta tc 0 0 0 t15 0 0 0 (k 11) (k 12) q.e q.e1 e2 ec) D hN
    (HHx 9 ⟨⟨by decide,conRng hm⟩,fun _=>⟨by decide,hc.mono (bd hd rfl) (bd hu rfl)⟩,fun _ z2=>⟨by decide,conLe O (by rw [sLt_nil]; rfl)⟩,fun _ z2 _=>⟨by decide,(con_pop2 O).mono (bd hd rfl) (bd hu rfl)⟩,fun _ z2 _ z4=>⟨by decide,conLe O (by rw [sLt_nil]; rfl)⟩,fun _ z2 _ z4 _=>⟨by decide,(con_pop1 O).mono (bd hd rfl) (bd hu rfl)⟩,fun _ z2 _ z4 _ z6=>⟨by decide,conAppend (by decide)⟩,fun _ z2 _ z4 _ z6 _=>⟨by decide,(con_push0 O).mono (bd hd rfl) (bd hu rfl)⟩,fun _ z2 _ z4 _ z6 _ z8=>⟨by decide,(con_push1 O).mono (bd hd rfl) (bd hu rfl)⟩,fun _ _ _ _ _ _ _ _ _=>trivial,fun _ z2 _ z4 _ z6 _ z8 z9=>?_⟩)
  intro h' D' hN' hq
  refine ⟨hq,?_⟩
  rw [em] at D'
  have hx:=(hG z2.1 z2.2).1
  cases hsp:sLt (sg []) z2.1.x with
  | true=>
    rw [hsp] at D'
    refine loop_h2 O (k:=kF k (T + 1) z2.1.T (z2.1.T + 1) z8.2) hz hd hu _ _ (hend _) ws z2.1.ls (i + 1) 0 i z2.1.x t15 T z2.1.t z2.1.N (sg []) tc (sg []) tc z2.1.x z2.1.t _ [sg []] _ _ h' _ _ (hG z2.1 z2.2).2 (TX.snoc (xs:=[]) ⟨[],rfl,rfl⟩) ?_ ?_ ?_ (Rep.sub D') hN'
    · rw [hx] at hsp ⊢; simp [rH2,sLt_nil,hsp]
    · rw [hx] at hsp ⊢; simp [rH2,sLt_nil,hsp]
    · simp; omega
  | false=>
    rw [hsp] at D'
    refine loop_h2 O (k:=kF k (T + 1) z2.1.T (z2.1.T + 1) z8.2) hz hd hu _ _ (hend _) ws z2.1.ls (i + 1) 0 i z2.1.x t15 T z2.1.t z2.1.N (sg []) tc z2.1.x z2.1.t (sg []) tc _ [sg []] _ _ h' _ _ (hG z2.1 z2.2).2 (TX.snoc (xs:=[]) ⟨[],rfl,rfl⟩) ?_ ?_ ?_ (Rep.sub D') hN'
    · rw [hx] at hsp ⊢; simp [rH2,sLt_nil,hsp]
    · rw [hx] at hsp ⊢; simp [rH2,sLt_nil,hsp]
    · simp; omega
end
end Mine
end
section
namespace Mine
section
variable {w:World} {b:Bool} (O:(cfg b w.params).Ok PG w)
include O
theorem first_r2 {X:LX} {F:LS → Prop} {aF it l lb:Addr} {sz:Int} {k:Nat → Tok} {A:Around} {R:Result → Shared → Prop} {S:List Addr} {h₀:Heap} {g:Array GenState} {d:Drawn} {os:OsState}
    (hz:A.handled = none) (hd:A.depth ≤ 550) (hu:A.units ≤ 5500) {x:Str} {ws:List Str} {q:LS} {i f:Int} {t15 ta tc:Tok} {ec e2:Nat} {h:Heap} {N T:Nat}
    (hend:∀ k q i f j x3 t15 t16 t17 pl t18 c bs ec e2 h N T,F q → TX bs (rR2 (x :: ws) (sg []) (sg [])).1 → f = (rR2 (x :: ws) (sg []) (sg [])).2 → Rep (cfg b w.params) S h₀ (LR2 w.params X aF it l lb sz k q i 0 f j x3 t15 t16 t17 pl t18 c bs ec e2) h → h.objs.size = N → R (.ok .next) ⟨h,g,d,T,os⟩)
    (hy:Yields w b X F (x :: ws) q) (hl:ws.length < 100) (D:Rep (cfg b w.params) S h₀ (LF w.params X aF it l lb sz 2 k q i (x :: ws).length 0 t15 [.str (sg []) ta,.str (sg []) tc] [] ec e2) h) (hN:h.objs.size = N) :
    codeAny (model PG w) A (flA137 aF it) R ⟨h,g,d,T,os⟩:=by
  obtain ⟨G,⟨g0⟩,hc,hG⟩:=hy N (T + 2)
  have hm:¬ (((x :: ws).length:Nat):Int) ≤ 0:=by simp only [List.length_cons]; omega
  have em:(((x :: ws).length:Nat):Int) - 1 = (ws.length:Nat):=by simp
  refine code_run O hz (r2s b w.params N T G g0 X aF it l lb 0 q.n i sz _ 0 0 0 q.S q.B [] (sg []) (sg []) x x x q.tn (k 0) (k 1) (k 2) (k 3) (k 4) (k 5) 0 0 0 0 ta tc 0 0 0 t15 0 0 0 (k 11) (k 12) q.e q.e1 e2 ec) D hN
    (HHx 5 ⟨⟨by decide,conRng hm⟩,fun _=>⟨by decide,hc.mono (bd hd rfl) (bd hu rfl)⟩,fun _ z2=>⟨by decide,(con_bi2p O (p:=2) (by simp [bis2,sLt_nil])).mono (bd hd rfl) (bd hu rfl)⟩,fun _ z2 z3=>⟨by decide,conAppend (by decide)⟩,fun _ z2 z3 _=>⟨by decide,(con_is1 O).mono (bd hd rfl) (bd hu rfl)⟩,fun _ _ _ _ _=>trivial,fun _ z2 z3 _ z5=>?_⟩)
  intro h' D' hN' hq
  refine ⟨hq,?_⟩
  rw [em] at D'
  have hx:=(hG z2.1 z2.2).1
  simp only [sLt_nil] at D'
  refine loop_r2 O (k:=kF k (T + 1) z2.1.T z3.2.1 0) hz hd hu _ _ (hend _) ws z2.1.ls (i + 1) 0 i z2.1.x t15 T z2.1.t _ _ (sg []) tc z2.1.x z2.1.t _ [sg []] _ _ h' _ _ (hG z2.1 z2.2).2 (TX.snoc (xs:=[]) ⟨[],rfl,rfl⟩) ?_ ?_ ?_ D' hN'
  · rw [hx]; simp [rR2,sLt_nil]
  · rw [hx]; simp [rR2,sLt_nil]
  · simp; omega
theorem first_r3 {X:LX} {F:LS → Prop} {aF it l lb:Addr} {sz:Int} {k:Nat → Tok} {A:Around} {R:Result → Shared → Prop} {S:List Addr} {h₀:Heap} {g:Array GenState} {d:Drawn} {os:OsState}
    (hz:A.handled = none) (hd:A.depth ≤ 550) (hu:A.units ≤ 5500) {x:Str} {ws:List Str} {q:LS} {i f:Int} {t15 ta tc ty:Tok} {ec e2:Nat} {h:Heap} {N T:Nat}
    (hend:∀ k q i f j x3 t15 t16 t17 pl t18 c bs ec e2 h N T,F q → TX bs (rR3 (x :: ws) (sg []) (sg []) (sg [])).1 → f = (rR3 (x :: ws) (sg []) (sg []) (sg [])).2 → Rep (cfg b w.params) S h₀ (LR3 w.params X aF it l lb sz k q i 0 f j x3 t15 t16 t17 pl t18 c bs ec e2) h → h.objs.size = N → R (.ok .next) ⟨h,g,d,T,os⟩)
    (hy:Yields w b X F (x :: ws) q) (hl:ws.length < 100) (D:Rep (cfg b w.params) S h₀ (LF w.params X aF it l lb sz 3 k q i (x :: ws).length 0 t15 [.str (sg []) ta,.str (sg []) tc,.str (sg []) ty] [] ec e2) h) (hN:h.objs.size = N) :
    codeAny (model PG w) A (flA137 aF it) R ⟨h,g,d,T,os⟩:=by
  obtain ⟨G,⟨g0⟩,hc,hG⟩:=hy N (T + 2)
  have hm:¬ (((x :: ws).length:Nat):Int) ≤ 0:=by simp only [List.length_cons]; omega
  have em:(((x :: ws).length:Nat):Int) - 1 = (ws.length:Nat):=by simp
  refine code_run O hz (r3s b w.params N T G g0 X aF it l lb 0 q.n i sz _ 0 0 0 q.S q.B [] (sg []) (sg []) (sg []) x x q.tn (k 0) (k 1) (k 2) (k 3) (k 4) (k 5) 0 0 0 0 ta tc ty 0 0 t15 0 0 0 (k 11) (k 12) q.e q.e1 e2 ec) D hN
    (HHx 5 ⟨⟨by decide,conRng hm⟩,fun _=>⟨by decide,hc.mono (bd hd rfl) (bd hu rfl)⟩,fun _ z2=>⟨by decide,(con_bi3p O (p:=3) (by simp [bis3,sLt_nil])).mono (bd hd rfl) (bd hu rfl)⟩,fun _ z2 z3=>⟨by decide,conAppend (by decide)⟩,fun _ z2 z3 _=>⟨by decide,(con_is2 O).mono (bd hd rfl) (bd hu rfl)⟩,fun _ _ _ _ _=>trivial,fun _ z2 z3 _ z5=>?_⟩)
  intro h' D' hN' hq
  refine ⟨hq,?_⟩
  rw [em] at D'
  have hx:=(hG z2.1 z2.2).1
  simp only [sLt_nil] at D'
  refine loop_r3 O (k:=kF k (T + 1) z2.1.T z3.2.1 0) hz hd hu _ _ (hend _) ws z2.1.ls (i + 1) 0 i z2.1.x t15 T z2.1.t _ _ (sg []) tc (sg []) ty z2.1.x z2.1.t _ [sg []] _ _ h' _ _ (hG z2.1 z2.2).2 (TX.snoc (xs:=[]) ⟨[],rfl,rfl⟩) ?_ ?_ ?_ D' hN'
  · rw [hx]; simp [rR3,sLt_nil]
  · rw [hx]; simp [rR3,sLt_nil]
  · simp; omega
end
end Mine
end
section
namespace Mine
section
variable (b:Bool) (P:Params) (N T:Nat)
theorem liE (it l:Addr) (vs:List Value) (j:Int) (e:Nat):Sx b P 11 [1,1] [] (.builtin "list_iterator.__next__" ⟨[(.ref it)],[]⟩) (setField (.ref it) 0 .none >>= fun _=>(PySem.Builtin.SmallTypes.stopIteration:Sem PySem.Fin)) [(it,(LI [(.ref l),(.int j 0)])),(l,(lst vs e))] N T (.fin (.error (.ref (N + 1))) [(it,(LI [.none,(.int j 0)])),(l,(lst vs e)),(N,(tup [] 0)),((N + 1),(fds "StopIteration" [(.ref N),.none,.none,.none,(.bool false),.none]))] (N + 2) T):=fx 0 trivial (by kernel_rfl)
end
section
variable {prog:Program} {w:World} {C:Cf}
theorem aft_updR {s:Shared} {l:Addr} {o o':Obj} {rd:Led} {f:Obj → Obj} {v:Value} (hh:HasL s.heap ((l,o) :: rd)) (nd:(((l,o) :: rd).map (·.1)).Nodup) (e:f o = o') (hf:o'.isFreed = false) :
    Aft s { s with heap:=s.heap.update l f } ((l,o) :: rd) ⟨.ret v,o' :: rd.map (·.2),[],s.heap.objs.size,s.toks⟩ where
  gens:=rfl
  drawn:=rfl
  os:=rfl
  toks:=rfl
  size:=(Heap.SameBut.update ..).1
  grow:=Nat.le_refl _
  wr:=fun p hp=>by
    rw [List.map_cons,List.zip_cons_cons,zip_self] at hp
    have ho:=hh _ (.head _)
    rcases List.mem_cons.mp hp with q | q
    · rw [q]
      have:=Heap.get?_update_self f ho (by rw [e]; exact hf)
      rw [e] at this; exact this
    · have:l ≠ p.1:=fun h=>by
        rw [List.map_cons,List.nodup_cons] at nd
        exact nd.1 (by show l ∈ _; rw [h]; exact List.mem_map_of_mem q)
      rw [Heap.get?_update_other _ _ this]
      exact hh _ (.tail _ q)
  nw:=fun p hp=>by cases hp
  nd:=List.nodup_nil
  keep:=fun b x hb n=>by
    have:l ≠ b:=fun h=>n (by rw [h]; exact .head _)
    rw [Heap.get?_update_other _ _ this]; exact hb
theorem plain_lit:plainId "list_iterator.__next__" = true:=by decide +kernel
theorem conLIt {d u:Nat} {it l:Addr} {vs:List Value} {v:Value} {e N T i:Nat} {j:Int} (hj:j = i) (hv:vs[i]? = some v) :
    Con prog w C d u (.builtin "list_iterator.__next__" ⟨[.ref it],[]⟩) [(it,fds "list_iterator" [.ref l,.int j 0]),(l,lst vs e)] N T
      (fun _:Unit=>⟨.ret v,[fds "list_iterator" [.ref l,.int (j + 1) 0],lst vs e],[],N,T⟩):=by
  intro A s hz _ _ _ hh nd _ hN hT
  refine codeAny_builtin entry_listiter_next ?_
  rw [Around.under_plainId plain_lit]
  have ho:=hh _ (.head _)
  have hol:=hh _ (.tail _ (.head _))
  show wpAny _ _ (field (.ref it) 0 >>= _) _ _ s
  refine wpAny_bind (wpAny_field ho rfl (x:=.ref l) rfl ?_)
  show wpAny _ _ (field (.ref it) 1 >>= _) _ _ s
  refine wpAny_bind (wpAny_field ho rfl (x:=.int j 0) rfl ?_)
  show wpAny _ _ (seqItems? (.ref l) >>= _) _ _ s
  refine wpAny_bind (wpAny_seqItems hol rfl ?_)
  have hx:(⟨vs⟩:Array Value)[j.toNat]? = some v:=by rw [hj]; simpa using hv
  simp only [hx]
  refine wpAny_bind (wpAny_setField ho rfl (by simp) (wpAny_pure ⟨(),rfl,?_⟩))
  subst hN hT
  exact aft_updR (rd:=[(l,lst vs e)]) hh nd rfl rfl
end
section
variable {w:World} {b:Bool} (O:(cfg b w.params).Ok PG w)
include O
theorem conLItE {d u:Nat} {it l:Addr} {vs:List Value} {e N T i:Nat} {j:Int} (hj:j = i) (hv:vs[i]? = none) :
    CG w b d u (.builtin "list_iterator.__next__" ⟨[.ref it],[]⟩) [(it,fds "list_iterator" [.ref l,.int j 0]),(l,lst vs e)] N T
      (fun _:Unit=>⟨.err (.ref (N + 1)),[fds "list_iterator" [.none,.int j 0],lst vs e],[(N,tup [] 0),(N + 1,fds "StopIteration" [.ref N,.none,.none,.none,.bool false,.none])],N + 2,T⟩):=by
  intro A s hz hd hu ht hh nd off hN hT
  obtain ⟨h,g,dr,T',os⟩:=s
  subst hN hT
  have D0:=rep_start ht hh nd off
  refine own_bi entry_listiter_next ?_
  have ho:=hh _ (.head _)
  have hol:=hh _ (.tail _ (.head _))
  show wpOwn _ _ _ (field (.ref it) 0 >>= _) _ _ _
  refine wpOwn_bind (wpOwn_of_wpAny (wpAny_field ho rfl (x:=.ref l) rfl ?_))
  show wpOwn _ _ _ (field (.ref it) 1 >>= _) _ _ _
  refine wpOwn_bind (wpOwn_of_wpAny (wpAny_field ho rfl (x:=.int j 0) rfl ?_))
  show wpOwn _ _ _ (seqItems? (.ref l) >>= _) _ _ _
  refine wpOwn_bind (wpOwn_of_wpAny (wpAny_seqItems hol rfl ?_))
  have hx:(⟨vs⟩:Array Value)[j.toNat]? = none:=by rw [hj]; simpa using hv
  simp only [hx]
  refine wpOwn_bind (wpOwn_of_wpAny (wpAny_rule ?_))
  refine own_run O hz (liE b w.params _ _ it l vs j e) D0 rfl ?_
  intro h' D' hN'
  exact ⟨(),rfl,aft_ix (q:=⟨_,[fds "list_iterator" [.none,.int j 0],lst vs e],[(h.objs.size,tup [] 0),(h.objs.size + 1,fds "StopIteration" [.ref h.objs.size,.none,.none,.none,.bool false,.none])],h.objs.size + 2,_⟩) D' rfl hN' rfl [0,1] (by decide) rfl⟩
end
end Mine
end
section
namespace Mine
noncomputable def frA9 (P:Params) (X:LX) (l lb:Addr) (sz rm:Int) (k:Nat → Tok) (f j:Int) (x3:Str) (t15 t16 t17:Tok) (lw:Addr):Obj:=frm P [((sg [108,105,110,101]),k 0,(.ref X.a)),((sg [115,105,122,101]),k 1,(.int sz (k 11))),((sg [114,111,111,109]),k 2,(.int rm (k 12))),((sg [99,97,114,114,105,101,114]),k 3,(.ref l)),((sg [98,111,120,101,115]),k 4,(.ref lb)),((sg [102,97,108,108,115]),k 5,(.int f t15)),((sg [116,117,114,110]),k 6,(.int j t16)),((sg [104,101,114,101]),k 7,(.str x3 t17)),((sg [108,111,119]),k 8,(.ref lw))] 9
noncomputable def frA10 (P:Params) (X:LX) (l lb:Addr) (sz rm:Int) (k:Nat → Tok) (f j:Int) (x3:Str) (t15 t16 t17:Tok) (lw:Addr) (x4:Str) (t18:Tok):Obj:=frm P [((sg [108,105,110,101]),k 0,(.ref X.a)),((sg [115,105,122,101]),k 1,(.int sz (k 11))),((sg [114,111,111,109]),k 2,(.int rm (k 12))),((sg [99,97,114,114,105,101,114]),k 3,(.ref l)),((sg [98,111,120,101,115]),k 4,(.ref lb)),((sg [102,97,108,108,115]),k 5,(.int f t15)),((sg [116,117,114,110]),k 6,(.int j t16)),((sg [104,101,114,101]),k 7,(.str x3 t17)),((sg [108,111,119]),k 8,(.ref lw)),((sg [98,111,120]),k 9,(.str x4 t18))] 10
noncomputable def frR9 (P:Params) (X:LX) (l lb:Addr) (sz rm:Int) (k:Nat → Tok) (f j:Int) (x3:Str) (t15 t16 t17:Tok) (pl:Int):Obj:=frm P [((sg [108,105,110,101]),k 0,(.ref X.a)),((sg [115,105,122,101]),k 1,(.int sz (k 11))),((sg [114,111,111,109]),k 2,(.int rm (k 12))),((sg [99,97,114,114,105,101,114]),k 3,(.ref l)),((sg [98,111,120,101,115]),k 4,(.ref lb)),((sg [102,97,108,108,115]),k 5,(.int f t15)),((sg [116,117,114,110]),k 6,(.int j t16)),((sg [104,101,114,101]),k 7,(.str x3 t17)),((sg [112,108,97,99,101]),k 8,(.int pl (k 13)))] 9
noncomputable def frR10 (P:Params) (X:LX) (l lb:Addr) (sz rm:Int) (k:Nat → Tok) (f j:Int) (x3:Str) (t15 t16 t17:Tok) (pl:Int) (x4:Str) (t18:Tok):Obj:=frm P [((sg [108,105,110,101]),k 0,(.ref X.a)),((sg [115,105,122,101]),k 1,(.int sz (k 11))),((sg [114,111,111,109]),k 2,(.int rm (k 12))),((sg [99,97,114,114,105,101,114]),k 3,(.ref l)),((sg [98,111,120,101,115]),k 4,(.ref lb)),((sg [102,97,108,108,115]),k 5,(.int f t15)),((sg [116,117,114,110]),k 6,(.int j t16)),((sg [104,101,114,101]),k 7,(.str x3 t17)),((sg [112,108,97,99,101]),k 8,(.int pl (k 13))),((sg [98,111,120]),k 9,(.str x4 t18))] 10
structure HA where
  q:LS
  i:Int
  f:Int
  j:Int
  x3:Str
  k:Nat → Tok
  t15:Tok
  t16:Tok
  t17:Tok
  lw:Addr
  x4:Str
  t18:Tok
  pl:Int
  c:List Value
  bs:List Value
  ec:Nat
  e2:Nat
  N:Nat
  T:Nat
structure HB where
  B:List Value
  e1:Nat
  i:Int
  k:Nat → Tok
  x4:Str
  t18:Tok
  N:Nat
  T:Nat
end Mine
end
section
namespace Mine
section
variable (b:Bool) (P:Params) (N T:Nat)
theorem hp9 (X:LX) (aF it l lb lw:Addr) (n i sz rm f j pl:Int) (S B bs:List Value) (x0 x3 x4:Str) (tn t0 t1 t2 t3 t4 t5 t6 t7 t8 t9 t10 t14 t15 t16 t17 t18 t21 t22:Tok) (e e1 e2:Nat):Sg b P 44 [11,11,10,10,10,1,0,0,0,1,0,0,0,1,0,0,0,0,1,2,10,0] [0,1,1] (flB130 aF it) (lexL P X n tn S e B e1++[(aF,(frm P [(J8,t0,(.ref X.a)),(J5,t1,(.int sz t21)),(J0,t2,(.int rm t22)),(J4,t3,(.ref l)),(J6,t4,(.ref lb)),(J1,t5,(.int f t15)),(J12,t6,(.int j t16)),(J2,t7,(.str x3 t17)),(J28,t8,(.ref lw))] 9)),(it,(LI [(.ref lb),(.int i 0)])),(lb,(lst bs e2))]) N T (.ask Unit ⟨(.builtin "list_iterator.__next__" ⟨[(.ref it)],[]⟩),0,0,[(it,(LI [(.ref lb),(.int i 0)])),(lb,(lst bs e2))],N,T⟩ [10,11] (fun z1=>⟨(.ret (.str x0 t10)),[(LI [(.ref lb),(.int (i + 1) 0)]),(lst bs e2)],[],N,T⟩) fun z1=>.ask (Nat × Nat) ⟨(.call (.ref 102) ⟨[(.ref X.a),(.str x0 t10)],[]⟩),0,0,(lexL P X n tn S e B e1),N,(T + 1)⟩ [0,1,2,3,4,5,6,7,8] (fun z2=>⟨(.ret .none),(lexO P X n tn S e (sn B (.str x0 t10)) (e1 + 1)),[],z2.1,z2.2⟩) fun z2=>.fin (.ok (.again (flB130 aF it))) (lexL P X n tn S e (sn B (.str x0 t10)) (e1 + 1)++[(aF,(frm P [(J8,t0,(.ref X.a)),(J5,t1,(.int sz t21)),(J0,t2,(.int rm t22)),(J4,t3,(.ref l)),(J6,t4,(.ref lb)),(J1,t5,(.int f t15)),(J12,t6,(.int j t16)),(J2,t7,(.str x3 t17)),(J28,t8,(.ref lw)),(J14,T,(.str x0 t10))] 10)),(it,(LI [(.ref lb),(.int (i + 1) 0)])),(lb,(lst bs e2))]) z2.1 z2.2):=fx 2 ⟨⟨()⟩,fun z1=>⟨(0,0)⟩,fun z1 z2=>trivial⟩ (by kernel_rfl)
theorem hp10 (X:LX) (aF it l lb lw:Addr) (n i sz rm f j pl:Int) (S B bs:List Value) (x0 x3 x4:Str) (tn t0 t1 t2 t3 t4 t5 t6 t7 t8 t9 t10 t14 t15 t16 t17 t18 t21 t22:Tok) (e e1 e2:Nat):Sg b P 44 [11,11,10,10,10,1,0,0,0,1,0,0,0,1,0,0,0,0,1,2,10,0] [0,1,1] (flB130 aF it) (lexL P X n tn S e B e1++[(aF,(frm P [(J8,t0,(.ref X.a)),(J5,t1,(.int sz t21)),(J0,t2,(.int rm t22)),(J4,t3,(.ref l)),(J6,t4,(.ref lb)),(J1,t5,(.int f t15)),(J12,t6,(.int j t16)),(J2,t7,(.str x3 t17)),(J28,t8,(.ref lw)),(J14,t9,(.str x4 t18))] 10)),(it,(LI [(.ref lb),(.int i 0)])),(lb,(lst bs e2))]) N T (.ask Unit ⟨(.builtin "list_iterator.__next__" ⟨[(.ref it)],[]⟩),0,0,[(it,(LI [(.ref lb),(.int i 0)])),(lb,(lst bs e2))],N,T⟩ [10,11] (fun z1=>⟨(.ret (.str x0 t10)),[(LI [(.ref lb),(.int (i + 1) 0)]),(lst bs e2)],[],N,T⟩) fun z1=>.ask (Nat × Nat) ⟨(.call (.ref 102) ⟨[(.ref X.a),(.str x0 t10)],[]⟩),0,0,(lexL P X n tn S e B e1),N,(T + 1)⟩ [0,1,2,3,4,5,6,7,8] (fun z2=>⟨(.ret .none),(lexO P X n tn S e (sn B (.str x0 t10)) (e1 + 1)),[],z2.1,z2.2⟩) fun z2=>.fin (.ok (.again (flB130 aF it))) (lexL P X n tn S e (sn B (.str x0 t10)) (e1 + 1)++[(aF,(frm P [(J8,t0,(.ref X.a)),(J5,t1,(.int sz t21)),(J0,t2,(.int rm t22)),(J4,t3,(.ref l)),(J6,t4,(.ref lb)),(J1,t5,(.int f t15)),(J12,t6,(.int j t16)),(J2,t7,(.str x3 t17)),(J28,t8,(.ref lw)),(J14,t9,(.str x0 t10))] 10)),(it,(LI [(.ref lb),(.int (i + 1) 0)])),(lb,(lst bs e2))]) z2.1 z2.2):=fx 2 ⟨⟨()⟩,fun z1=>⟨(0,0)⟩,fun z1 z2=>trivial⟩ (by kernel_rfl)
theorem hpz (X:LX) (aF it l lb lw:Addr) (n i sz rm f j pl:Int) (S B bs:List Value) (x0 x3 x4:Str) (tn t0 t1 t2 t3 t4 t5 t6 t7 t8 t9 t10 t14 t15 t16 t17 t18 t21 t22:Tok) (e e1 e2:Nat):Sg b P 12 [11,11,14] [0,1] (flB130 aF it) (lexL P X n tn S e B e1++[(aF,(frm P [(J8,t0,(.ref X.a)),(J5,t1,(.int sz t21)),(J0,t2,(.int rm t22)),(J4,t3,(.ref l)),(J6,t4,(.ref lb)),(J1,t5,(.int f t15)),(J12,t6,(.int j t16)),(J2,t7,(.str x3 t17)),(J28,t8,(.ref lw)),(J14,t9,(.str x4 t18))] 10)),(it,(LI [(.ref lb),(.int i 0)])),(lb,(lst bs e2))]) N T (.ask Unit ⟨(.builtin "list_iterator.__next__" ⟨[(.ref it)],[]⟩),0,0,[(it,(LI [(.ref lb),(.int i 0)])),(lb,(lst bs e2))],N,T⟩ [10,11] (fun z1=>⟨(.err (.ref (N + 1))),[(LI [.none,(.int i 0)]),(lst bs e2)],[(N,(tup [] 0)),((N + 1),(fds "StopIteration" [(.ref N),.none,.none,.none,(.bool false),.none]))],(N + 2),T⟩) fun z1=>.fin (.ok (.again (bl130 aF))) (lexL P X n tn S e B e1++[(aF,(frm P [(J8,t0,(.ref X.a)),(J5,t1,(.int sz t21)),(J0,t2,(.int rm t22)),(J4,t3,(.ref l)),(J6,t4,(.ref lb)),(J1,t5,(.int f t15)),(J12,t6,(.int j t16)),(J2,t7,(.str x3 t17)),(J28,t8,(.ref lw)),(J14,t9,(.str x4 t18))] 10)),(it,(LI [.none,(.int i 0)])),(lb,(lst bs e2)),(N,(tup [] 0)),((N + 1),(fds "StopIteration" [(.ref N),.none,.none,.none,(.bool false),.none]))]) (N + 2) T):=fx 1 ⟨⟨()⟩,fun z1=>trivial⟩ (by kernel_rfl)
theorem rp9 (X:LX) (aF it l lb lw:Addr) (n i sz rm f j pl:Int) (S B bs:List Value) (x0 x3 x4:Str) (tn t0 t1 t2 t3 t4 t5 t6 t7 t8 t9 t10 t14 t15 t16 t17 t18 t21 t22:Tok) (e e1 e2:Nat):Sg b P 44 [11,11,10,10,10,1,0,0,0,1,0,0,0,1,0,0,0,0,1,2,10,0] [0,1,1] (flB137 aF it) (lexL P X n tn S e B e1++[(aF,(frm P [(J8,t0,(.ref X.a)),(J5,t1,(.int sz t21)),(J0,t2,(.int rm t22)),(J4,t3,(.ref l)),(J6,t4,(.ref lb)),(J1,t5,(.int f t15)),(J12,t6,(.int j t16)),(J2,t7,(.str x3 t17)),(J18,t8,(.int pl t18))] 9)),(it,(LI [(.ref lb),(.int i 0)])),(lb,(lst bs e2))]) N T (.ask Unit ⟨(.builtin "list_iterator.__next__" ⟨[(.ref it)],[]⟩),0,0,[(it,(LI [(.ref lb),(.int i 0)])),(lb,(lst bs e2))],N,T⟩ [10,11] (fun z1=>⟨(.ret (.str x0 t10)),[(LI [(.ref lb),(.int (i + 1) 0)]),(lst bs e2)],[],N,T⟩) fun z1=>.ask (Nat × Nat) ⟨(.call (.ref 102) ⟨[(.ref X.a),(.str x0 t10)],[]⟩),0,0,(lexL P X n tn S e B e1),N,(T + 1)⟩ [0,1,2,3,4,5,6,7,8] (fun z2=>⟨(.ret .none),(lexO P X n tn S e (sn B (.str x0 t10)) (e1 + 1)),[],z2.1,z2.2⟩) fun z2=>.fin (.ok (.again (flB137 aF it))) (lexL P X n tn S e (sn B (.str x0 t10)) (e1 + 1)++[(aF,(frm P [(J8,t0,(.ref X.a)),(J5,t1,(.int sz t21)),(J0,t2,(.int rm t22)),(J4,t3,(.ref l)),(J6,t4,(.ref lb)),(J1,t5,(.int f t15)),(J12,t6,(.int j t16)),(J2,t7,(.str x3 t17)),(J18,t8,(.int pl t18)),(J14,T,(.str x0 t10))] 10)),(it,(LI [(.ref lb),(.int (i + 1) 0)])),(lb,(lst bs e2))]) z2.1 z2.2):=fx 2 ⟨⟨()⟩,fun z1=>⟨(0,0)⟩,fun z1 z2=>trivial⟩ (by kernel_rfl)
theorem rp10 (X:LX) (aF it l lb lw:Addr) (n i sz rm f j pl:Int) (S B bs:List Value) (x0 x3 x4:Str) (tn t0 t1 t2 t3 t4 t5 t6 t7 t8 t9 t10 t14 t15 t16 t17 t18 t21 t22:Tok) (e e1 e2:Nat):Sg b P 44 [11,11,10,10,10,1,0,0,0,1,0,0,0,1,0,0,0,0,1,2,10,0] [0,1,1] (flB137 aF it) (lexL P X n tn S e B e1++[(aF,(frm P [(J8,t0,(.ref X.a)),(J5,t1,(.int sz t21)),(J0,t2,(.int rm t22)),(J4,t3,(.ref l)),(J6,t4,(.ref lb)),(J1,t5,(.int f t15)),(J12,t6,(.int j t16)),(J2,t7,(.str x3 t17)),(J18,t8,(.int pl t18)),(J14,t9,(.str x4 t14))] 10)),(it,(LI [(.ref lb),(.int i 0)])),(lb,(lst bs e2))]) N T (.ask Unit ⟨(.builtin "list_iterator.__next__" ⟨[(.ref it)],[]⟩),0,0,[(it,(LI [(.ref lb),(.int i 0)])),(lb,(lst bs e2))],N,T⟩ [10,11] (fun z1=>⟨(.ret (.str x0 t10)),[(LI [(.ref lb),(.int (i + 1) 0)]),(lst bs e2)],[],N,T⟩) fun z1=>.ask (Nat × Nat) ⟨(.call (.ref 102) ⟨[(.ref X.a),(.str x0 t10)],[]⟩),0,0,(lexL P X n tn S e B e1),N,(T + 1)⟩ [0,1,2,3,4,5,6,7,8] (fun z2=>⟨(.ret .none),(lexO P X n tn S e (sn B (.str x0 t10)) (e1 + 1)),[],z2.1,z2.2⟩) fun z2=>.fin (.ok (.again (flB137 aF it))) (lexL P X n tn S e (sn B (.str x0 t10)) (e1 + 1)++[(aF,(frm P [(J8,t0,(.ref X.a)),(J5,t1,(.int sz t21)),(J0,t2,(.int rm t22)),(J4,t3,(.ref l)),(J6,t4,(.ref lb)),(J1,t5,(.int f t15)),(J12,t6,(.int j t16)),(J2,t7,(.str x3 t17)),(J18,t8,(.int pl t18)),(J14,t9,(.str x0 t10))] 10)),(it,(LI [(.ref lb),(.int (i + 1) 0)])),(lb,(lst bs e2))]) z2.1 z2.2):=fx 2 ⟨⟨()⟩,fun z1=>⟨(0,0)⟩,fun z1 z2=>trivial⟩ (by kernel_rfl)
theorem rpz (X:LX) (aF it l lb lw:Addr) (n i sz rm f j pl:Int) (S B bs:List Value) (x0 x3 x4:Str) (tn t0 t1 t2 t3 t4 t5 t6 t7 t8 t9 t10 t14 t15 t16 t17 t18 t21 t22:Tok) (e e1 e2:Nat):Sg b P 12 [11,11,14] [0,1] (flB137 aF it) (lexL P X n tn S e B e1++[(aF,(frm P [(J8,t0,(.ref X.a)),(J5,t1,(.int sz t21)),(J0,t2,(.int rm t22)),(J4,t3,(.ref l)),(J6,t4,(.ref lb)),(J1,t5,(.int f t15)),(J12,t6,(.int j t16)),(J2,t7,(.str x3 t17)),(J18,t8,(.int pl t18)),(J14,t9,(.str x4 t14))] 10)),(it,(LI [(.ref lb),(.int i 0)])),(lb,(lst bs e2))]) N T (.ask Unit ⟨(.builtin "list_iterator.__next__" ⟨[(.ref it)],[]⟩),0,0,[(it,(LI [(.ref lb),(.int i 0)])),(lb,(lst bs e2))],N,T⟩ [10,11] (fun z1=>⟨(.err (.ref (N + 1))),[(LI [.none,(.int i 0)]),(lst bs e2)],[(N,(tup [] 0)),((N + 1),(fds "StopIteration" [(.ref N),.none,.none,.none,(.bool false),.none]))],(N + 2),T⟩) fun z1=>.fin (.ok (.again (bl137 aF))) (lexL P X n tn S e B e1++[(aF,(frm P [(J8,t0,(.ref X.a)),(J5,t1,(.int sz t21)),(J0,t2,(.int rm t22)),(J4,t3,(.ref l)),(J6,t4,(.ref lb)),(J1,t5,(.int f t15)),(J12,t6,(.int j t16)),(J2,t7,(.str x3 t17)),(J18,t8,(.int pl t18)),(J14,t9,(.str x4 t14))] 10)),(it,(LI [.none,(.int i 0)])),(lb,(lst bs e2)),(N,(tup [] 0)),((N + 1),(fds "StopIteration" [(.ref N),.none,.none,.none,(.bool false),.none]))]) (N + 2) T):=fx 1 ⟨⟨()⟩,fun z1=>trivial⟩ (by kernel_rfl)
theorem ri8 (a:Addr) (t0 t1 t2:Tok):Sg b P 10 [1,1,1] [] (.builtin "range.__iter__" ⟨[(.ref a)],[]⟩) [(a,(fds "range" [(.int 0 t0),(.int 8 t1),(.int 1 t2)]))] N T (.fin (.ok (.done (.ret (.ref N)))) [(a,(fds "range" [(.int 0 t0),(.int 8 t1),(.int 1 t2)])),(N,(RI [(.int 0 0),(.int 8 0),(.int 1 0)]))] (N + 1) T):=fx 0 trivial (by kernel_rfl)
theorem ri9 (a:Addr) (t0 t1 t2:Tok):Sg b P 10 [1,1,1] [] (.builtin "range.__iter__" ⟨[(.ref a)],[]⟩) [(a,(fds "range" [(.int 0 t0),(.int 9 t1),(.int 1 t2)]))] N T (.fin (.ok (.done (.ret (.ref N)))) [(a,(fds "range" [(.int 0 t0),(.int 9 t1),(.int 1 t2)])),(N,(RI [(.int 0 0),(.int 9 0),(.int 1 0)]))] (N + 1) T):=fx 0 trivial (by kernel_rfl)
theorem ri10 (a:Addr) (t0 t1 t2:Tok):Sg b P 10 [1,1,1] [] (.builtin "range.__iter__" ⟨[(.ref a)],[]⟩) [(a,(fds "range" [(.int 0 t0),(.int 10 t1),(.int 1 t2)]))] N T (.fin (.ok (.done (.ret (.ref N)))) [(a,(fds "range" [(.int 0 t0),(.int 10 t1),(.int 1 t2)])),(N,(RI [(.int 0 0),(.int 10 0),(.int 1 0)]))] (N + 1) T):=fx 0 trivial (by kernel_rfl)
theorem ri11 (a:Addr) (t0 t1 t2:Tok):Sg b P 10 [1,1,1] [] (.builtin "range.__iter__" ⟨[(.ref a)],[]⟩) [(a,(fds "range" [(.int 0 t0),(.int 11 t1),(.int 1 t2)]))] N T (.fin (.ok (.done (.ret (.ref N)))) [(a,(fds "range" [(.int 0 t0),(.int 11 t1),(.int 1 t2)])),(N,(RI [(.int 0 0),(.int 11 0),(.int 1 0)]))] (N + 1) T):=fx 0 trivial (by kernel_rfl)
theorem ri12 (a:Addr) (t0 t1 t2:Tok):Sg b P 10 [1,1,1] [] (.builtin "range.__iter__" ⟨[(.ref a)],[]⟩) [(a,(fds "range" [(.int 0 t0),(.int 12 t1),(.int 1 t2)]))] N T (.fin (.ok (.done (.ret (.ref N)))) [(a,(fds "range" [(.int 0 t0),(.int 12 t1),(.int 1 t2)])),(N,(RI [(.int 0 0),(.int 12 0),(.int 1 0)]))] (N + 1) T):=fx 0 trivial (by kernel_rfl)
theorem hp1 (GA:HA → Prop) (g0:{z:HA // GA z}) (GB:HA → HB → Prop) (g1:(z:HA) → {y:HB // GB z y}) (X:LX) (aF:Addr) (n sz:Int) (S B:List Value) (tn t0 t1 t2 t21 t22:Tok) (e e1:Nat):Sg b P 109 [10,11,11,11,11,11,10,10,10,10,10,10,0,0,10,14,14,14,14,14,14,14,15,10,13,13,13,16,10,10] [0,0,0,0,0,0,0,0,0,0,0,1,1,0,0,1] (cd130 aF) (lexL P X n tn S e B e1++[(aF,(frm P [(J8,t0,(.ref X.a)),(J5,t1,(.int sz t21)),(J0,t2,(.int 1 t22))] 3))]) N T (.ask Unit ⟨(.builtin "range.__iter__" ⟨[(.ref (N + 3))],[]⟩),1,3,[((N + 3),(fds "range" [(.int 0 (T + 5)),(.int sz t21),(.int 1 (T + 6))]))],(N + 4),(T + 7)⟩ [13] (fun z1=>⟨(.ret (.ref (N + 4))),[(fds "range" [(.int 0 (T + 5)),(.int sz t21),(.int 1 (T + 6))])],[((N + 4),(RI [(.int 0 0),(.int sz 0),(.int 1 0)]))],(N + 5),(T + 7)⟩) fun z1=>.ask {z:HA // GA z} ⟨(flA130 aF (N + 4)),1,3,(lexL P X n tn S e B e1++[(aF,(frm P [(J8,t0,(.ref X.a)),(J5,t1,(.int sz t21)),(J0,t2,(.int 1 t22)),(J4,(T + 1),(.ref (N + 1))),(J6,(T + 2),(.ref (N + 2))),(J1,(T + 4),(.int 0 (T + 3)))] 6)),((N + 4),(RI [(.int 0 0),(.int sz 0),(.int 1 0)])),((N + 1),(lst [(.str J10 T)] 0)),((N + 2),(lst [] 0))]),(N + 5),(T + 7)⟩ [0,1,2,3,4,5,6,7,8,9,14,11,12] (fun z2=>⟨.next,(lexO P X z2.1.q.n z2.1.q.tn z2.1.q.S z2.1.q.e z2.1.q.B z2.1.q.e1++[(frA9 P X (N + 1) (N + 2) sz 1 z2.1.k z2.1.f z2.1.j z2.1.x3 z2.1.t15 z2.1.t16 z2.1.t17 z2.1.lw),(RI [(.int z2.1.i 0),(.int 0 0),(.int 1 0)]),(lst z2.1.c z2.1.ec),(lst z2.1.bs z2.1.e2)]),[],z2.1.N,z2.1.T⟩) fun z2=>.ask {y:HB // GB z2.1 y} ⟨(flB130 aF z2.1.N),1,3,(lexL P X z2.1.q.n z2.1.q.tn z2.1.q.S z2.1.q.e z2.1.q.B z2.1.q.e1++[(aF,(frA9 P X (N + 1) (N + 2) sz 1 z2.1.k z2.1.f z2.1.j z2.1.x3 z2.1.t15 z2.1.t16 z2.1.t17 z2.1.lw)),(z2.1.N,(LI [(.ref (N + 2)),(.int 0 0)])),((N + 2),(lst z2.1.bs z2.1.e2))]),(z2.1.N + 1),z2.1.T⟩ [0,1,2,3,4,5,6,7,8,9,15,12] (fun z3=>⟨.next,(lexO P X z2.1.q.n z2.1.q.tn z2.1.q.S z2.1.q.e z3.1.B z3.1.e1++[(frA10 P X (N + 1) (N + 2) sz 1 z3.1.k z2.1.f z2.1.j z2.1.x3 z2.1.t15 z2.1.t16 z2.1.t17 z2.1.lw z3.1.x4 z3.1.t18),(LI [.none,(.int z3.1.i 0)]),(lst z2.1.bs z2.1.e2)]),[],z3.1.N,z3.1.T⟩) fun z3=>.fin (.ok (.done (.ret (.ref z3.1.N)))) (lexL P X z2.1.q.n z2.1.q.tn z2.1.q.S z2.1.q.e z3.1.B z3.1.e1++[(aF,(frA10 P X (N + 1) (N + 2) sz 1 z3.1.k z2.1.f z2.1.j z2.1.x3 z2.1.t15 z2.1.t16 z2.1.t17 z2.1.lw z3.1.x4 z3.1.t18)),(N,(lst [(.str J10 T)] 0)),((N + 1),(lst z2.1.c z2.1.ec)),((N + 2),(lst z2.1.bs z2.1.e2)),((N + 3),(fds "range" [(.int 0 (T + 5)),(.int sz t21),(.int 1 (T + 6))])),((N + 4),(RI [(.int z2.1.i 0),(.int 0 0),(.int 1 0)])),(z2.1.N,(LI [.none,(.int z3.1.i 0)])),(z3.1.N,(tup [(.int z2.1.f z2.1.t15),(.ref (N + 2))] 0))]) (z3.1.N + 1) z3.1.T):=fx 3 ⟨⟨()⟩,fun z1=>⟨g0⟩,fun z1 z2=>⟨g1 z2.1⟩,fun z1 z2 z3=>trivial⟩ (by kernel_rfl)
theorem hp2 (GA:HA → Prop) (g0:{z:HA // GA z}) (GB:HA → HB → Prop) (g1:(z:HA) → {y:HB // GB z y}) (X:LX) (aF:Addr) (n sz:Int) (S B:List Value) (tn t0 t1 t2 t21 t22:Tok) (e e1:Nat):Sg b P 109 [10,11,11,11,11,11,10,10,10,10,10,10,0,0,10,14,14,14,14,14,14,14,15,10,13,13,13,16,10,10] [0,0,0,0,0,0,0,0,0,0,0,1,1,0,0,1] (cd130 aF) (lexL P X n tn S e B e1++[(aF,(frm P [(J8,t0,(.ref X.a)),(J5,t1,(.int sz t21)),(J0,t2,(.int 2 t22))] 3))]) N T (.ask Unit ⟨(.builtin "range.__iter__" ⟨[(.ref (N + 3))],[]⟩),1,3,[((N + 3),(fds "range" [(.int 0 (T + 5)),(.int sz t21),(.int 1 (T + 6))]))],(N + 4),(T + 7)⟩ [13] (fun z1=>⟨(.ret (.ref (N + 4))),[(fds "range" [(.int 0 (T + 5)),(.int sz t21),(.int 1 (T + 6))])],[((N + 4),(RI [(.int 0 0),(.int sz 0),(.int 1 0)]))],(N + 5),(T + 7)⟩) fun z1=>.ask {z:HA // GA z} ⟨(flA130 aF (N + 4)),1,3,(lexL P X n tn S e B e1++[(aF,(frm P [(J8,t0,(.ref X.a)),(J5,t1,(.int sz t21)),(J0,t2,(.int 2 t22)),(J4,(T + 1),(.ref (N + 1))),(J6,(T + 2),(.ref (N + 2))),(J1,(T + 4),(.int 0 (T + 3)))] 6)),((N + 4),(RI [(.int 0 0),(.int sz 0),(.int 1 0)])),((N + 1),(lst [(.str J10 T),(.str J10 T)] 0)),((N + 2),(lst [] 0))]),(N + 5),(T + 7)⟩ [0,1,2,3,4,5,6,7,8,9,14,11,12] (fun z2=>⟨.next,(lexO P X z2.1.q.n z2.1.q.tn z2.1.q.S z2.1.q.e z2.1.q.B z2.1.q.e1++[(frA10 P X (N + 1) (N + 2) sz 2 z2.1.k z2.1.f z2.1.j z2.1.x3 z2.1.t15 z2.1.t16 z2.1.t17 z2.1.lw z2.1.x4 z2.1.t18),(RI [(.int z2.1.i 0),(.int 0 0),(.int 1 0)]),(lst z2.1.c z2.1.ec),(lst z2.1.bs z2.1.e2)]),[],z2.1.N,z2.1.T⟩) fun z2=>.ask {y:HB // GB z2.1 y} ⟨(flB130 aF z2.1.N),1,3,(lexL P X z2.1.q.n z2.1.q.tn z2.1.q.S z2.1.q.e z2.1.q.B z2.1.q.e1++[(aF,(frA10 P X (N + 1) (N + 2) sz 2 z2.1.k z2.1.f z2.1.j z2.1.x3 z2.1.t15 z2.1.t16 z2.1.t17 z2.1.lw z2.1.x4 z2.1.t18)),(z2.1.N,(LI [(.ref (N + 2)),(.int 0 0)])),((N + 2),(lst z2.1.bs z2.1.e2))]),(z2.1.N + 1),z2.1.T⟩ [0,1,2,3,4,5,6,7,8,9,15,12] (fun z3=>⟨.next,(lexO P X z2.1.q.n z2.1.q.tn z2.1.q.S z2.1.q.e z3.1.B z3.1.e1++[(frA10 P X (N + 1) (N + 2) sz 2 z3.1.k z2.1.f z2.1.j z2.1.x3 z2.1.t15 z2.1.t16 z2.1.t17 z2.1.lw z3.1.x4 z3.1.t18),(LI [.none,(.int z3.1.i 0)]),(lst z2.1.bs z2.1.e2)]),[],z3.1.N,z3.1.T⟩) fun z3=>.fin (.ok (.done (.ret (.ref z3.1.N)))) (lexL P X z2.1.q.n z2.1.q.tn z2.1.q.S z2.1.q.e z3.1.B z3.1.e1++[(aF,(frA10 P X (N + 1) (N + 2) sz 2 z3.1.k z2.1.f z2.1.j z2.1.x3 z2.1.t15 z2.1.t16 z2.1.t17 z2.1.lw z3.1.x4 z3.1.t18)),(N,(lst [(.str J10 T)] 0)),((N + 1),(lst z2.1.c z2.1.ec)),((N + 2),(lst z2.1.bs z2.1.e2)),((N + 3),(fds "range" [(.int 0 (T + 5)),(.int sz t21),(.int 1 (T + 6))])),((N + 4),(RI [(.int z2.1.i 0),(.int 0 0),(.int 1 0)])),(z2.1.N,(LI [.none,(.int z3.1.i 0)])),(z3.1.N,(tup [(.int z2.1.f z2.1.t15),(.ref (N + 2))] 0))]) (z3.1.N + 1) z3.1.T):=fx 3 ⟨⟨()⟩,fun z1=>⟨g0⟩,fun z1 z2=>⟨g1 z2.1⟩,fun z1 z2 z3=>trivial⟩ (by kernel_rfl)
theorem rp2 (GA:HA → Prop) (g0:{z:HA // GA z}) (GB:HA → HB → Prop) (g1:(z:HA) → {y:HB // GB z y}) (X:LX) (aF:Addr) (n sz:Int) (S B:List Value) (tn t0 t1 t2 t21 t22:Tok) (e e1:Nat):Sg b P 109 [10,11,11,11,11,11,10,10,10,10,10,10,0,0,10,14,14,14,14,14,14,14,15,10,13,13,13,16,10,10] [0,0,0,0,0,0,0,0,0,0,0,1,1,0,0,1] (cd137 aF) (lexL P X n tn S e B e1++[(aF,(frm P [(J8,t0,(.ref X.a)),(J5,t1,(.int sz t21)),(J0,t2,(.int 2 t22))] 3))]) N T (.ask Unit ⟨(.builtin "range.__iter__" ⟨[(.ref (N + 3))],[]⟩),1,3,[((N + 3),(fds "range" [(.int 0 (T + 5)),(.int sz t21),(.int 1 (T + 6))]))],(N + 4),(T + 7)⟩ [13] (fun z1=>⟨(.ret (.ref (N + 4))),[(fds "range" [(.int 0 (T + 5)),(.int sz t21),(.int 1 (T + 6))])],[((N + 4),(RI [(.int 0 0),(.int sz 0),(.int 1 0)]))],(N + 5),(T + 7)⟩) fun z1=>.ask {z:HA // GA z} ⟨(flA137 aF (N + 4)),1,3,(lexL P X n tn S e B e1++[(aF,(frm P [(J8,t0,(.ref X.a)),(J5,t1,(.int sz t21)),(J0,t2,(.int 2 t22)),(J4,(T + 1),(.ref (N + 1))),(J6,(T + 2),(.ref (N + 2))),(J1,(T + 4),(.int 0 (T + 3)))] 6)),((N + 4),(RI [(.int 0 0),(.int sz 0),(.int 1 0)])),((N + 1),(lst [(.str J10 T),(.str J10 T)] 0)),((N + 2),(lst [] 0))]),(N + 5),(T + 7)⟩ [0,1,2,3,4,5,6,7,8,9,14,11,12] (fun z2=>⟨.next,(lexO P X z2.1.q.n z2.1.q.tn z2.1.q.S z2.1.q.e z2.1.q.B z2.1.q.e1++[(frR9 P X (N + 1) (N + 2) sz 2 z2.1.k z2.1.f z2.1.j z2.1.x3 z2.1.t15 z2.1.t16 z2.1.t17 z2.1.pl),(RI [(.int z2.1.i 0),(.int 0 0),(.int 1 0)]),(lst z2.1.c z2.1.ec),(lst z2.1.bs z2.1.e2)]),[],z2.1.N,z2.1.T⟩) fun z2=>.ask {y:HB // GB z2.1 y} ⟨(flB137 aF z2.1.N),1,3,(lexL P X z2.1.q.n z2.1.q.tn z2.1.q.S z2.1.q.e z2.1.q.B z2.1.q.e1++[(aF,(frR9 P X (N + 1) (N + 2) sz 2 z2.1.k z2.1.f z2.1.j z2.1.x3 z2.1.t15 z2.1.t16 z2.1.t17 z2.1.pl)),(z2.1.N,(LI [(.ref (N + 2)),(.int 0 0)])),((N + 2),(lst z2.1.bs z2.1.e2))]),(z2.1.N + 1),z2.1.T⟩ [0,1,2,3,4,5,6,7,8,9,15,12] (fun z3=>⟨.next,(lexO P X z2.1.q.n z2.1.q.tn z2.1.q.S z2.1.q.e z3.1.B z3.1.e1++[(frR10 P X (N + 1) (N + 2) sz 2 z3.1.k z2.1.f z2.1.j z2.1.x3 z2.1.t15 z2.1.t16 z2.1.t17 z2.1.pl z3.1.x4 z3.1.t18),(LI [.none,(.int z3.1.i 0)]),(lst z2.1.bs z2.1.e2)]),[],z3.1.N,z3.1.T⟩) fun z3=>.fin (.ok (.done (.ret (.ref z3.1.N)))) (lexL P X z2.1.q.n z2.1.q.tn z2.1.q.S z2.1.q.e z3.1.B z3.1.e1++[(aF,(frR10 P X (N + 1) (N + 2) sz 2 z3.1.k z2.1.f z2.1.j z2.1.x3 z2.1.t15 z2.1.t16 z2.1.t17 z2.1.pl z3.1.x4 z3.1.t18)),(N,(lst [(.str J10 T)] 0)),((N + 1),(lst z2.1.c z2.1.ec)),((N + 2),(lst z2.1.bs z2.1.e2)),((N + 3),(fds "range" [(.int 0 (T + 5)),(.int sz t21),(.int 1 (T + 6))])),((N + 4),(RI [(.int z2.1.i 0),(.int 0 0),(.int 1 0)])),(z2.1.N,(LI [.none,(.int z3.1.i 0)])),(z3.1.N,(tup [(.int z2.1.f z2.1.t15),(.ref (N + 2))] 0))]) (z3.1.N + 1) z3.1.T):=fx 3 ⟨⟨()⟩,fun z1=>⟨g0⟩,fun z1 z2=>⟨g1 z2.1⟩,fun z1 z2 z3=>trivial⟩ (by kernel_rfl)
theorem rp3 (GA:HA → Prop) (g0:{z:HA // GA z}) (GB:HA → HB → Prop) (g1:(z:HA) → {y:HB // GB z y}) (X:LX) (aF:Addr) (n sz:Int) (S B:List Value) (tn t0 t1 t2 t21 t22:Tok) (e e1:Nat):Sg b P 109 [10,11,11,11,11,11,10,10,10,10,10,10,0,0,10,14,14,14,14,14,14,14,15,10,13,13,13,16,10,10] [0,0,0,0,0,0,0,0,0,0,0,1,1,0,0,1] (cd137 aF) (lexL P X n tn S e B e1++[(aF,(frm P [(J8,t0,(.ref X.a)),(J5,t1,(.int sz t21)),(J0,t2,(.int 3 t22))] 3))]) N T (.ask Unit ⟨(.builtin "range.__iter__" ⟨[(.ref (N + 3))],[]⟩),1,3,[((N + 3),(fds "range" [(.int 0 (T + 5)),(.int sz t21),(.int 1 (T + 6))]))],(N + 4),(T + 7)⟩ [13] (fun z1=>⟨(.ret (.ref (N + 4))),[(fds "range" [(.int 0 (T + 5)),(.int sz t21),(.int 1 (T + 6))])],[((N + 4),(RI [(.int 0 0),(.int sz 0),(.int 1 0)]))],(N + 5),(T + 7)⟩) fun z1=>.ask {z:HA // GA z} ⟨(flA137 aF (N + 4)),1,3,(lexL P X n tn S e B e1++[(aF,(frm P [(J8,t0,(.ref X.a)),(J5,t1,(.int sz t21)),(J0,t2,(.int 3 t22)),(J4,(T + 1),(.ref (N + 1))),(J6,(T + 2),(.ref (N + 2))),(J1,(T + 4),(.int 0 (T + 3)))] 6)),((N + 4),(RI [(.int 0 0),(.int sz 0),(.int 1 0)])),((N + 1),(lst [(.str J10 T),(.str J10 T),(.str J10 T)] 0)),((N + 2),(lst [] 0))]),(N + 5),(T + 7)⟩ [0,1,2,3,4,5,6,7,8,9,14,11,12] (fun z2=>⟨.next,(lexO P X z2.1.q.n z2.1.q.tn z2.1.q.S z2.1.q.e z2.1.q.B z2.1.q.e1++[(frR9 P X (N + 1) (N + 2) sz 3 z2.1.k z2.1.f z2.1.j z2.1.x3 z2.1.t15 z2.1.t16 z2.1.t17 z2.1.pl),(RI [(.int z2.1.i 0),(.int 0 0),(.int 1 0)]),(lst z2.1.c z2.1.ec),(lst z2.1.bs z2.1.e2)]),[],z2.1.N,z2.1.T⟩) fun z2=>.ask {y:HB // GB z2.1 y} ⟨(flB137 aF z2.1.N),1,3,(lexL P X z2.1.q.n z2.1.q.tn z2.1.q.S z2.1.q.e z2.1.q.B z2.1.q.e1++[(aF,(frR9 P X (N + 1) (N + 2) sz 3 z2.1.k z2.1.f z2.1.j z2.1.x3 z2.1.t15 z2.1.t16 z2.1.t17 z2.1.pl)),(z2.1.N,(LI [(.ref (N + 2)),(.int 0 0)])),((N + 2),(lst z2.1.bs z2.1.e2))]),(z2.1.N + 1),z2.1.T⟩ [0,1,2,3,4,5,6,7,8,9,15,12] (fun z3=>⟨.next,(lexO P X z2.1.q.n z2.1.q.tn z2.1.q.S z2.1.q.e z3.1.B z3.1.e1++[(frR10 P X (N + 1) (N + 2) sz 3 z3.1.k z2.1.f z2.1.j z2.1.x3 z2.1.t15 z2.1.t16 z2.1.t17 z2.1.pl z3.1.x4 z3.1.t18),(LI [.none,(.int z3.1.i 0)]),(lst z2.1.bs z2.1.e2)]),[],z3.1.N,z3.1.T⟩) fun z3=>.fin (.ok (.done (.ret (.ref z3.1.N)))) (lexL P X z2.1.q.n z2.1.q.tn z2.1.q.S z2.1.q.e z3.1.B z3.1.e1++[(aF,(frR10 P X (N + 1) (N + 2) sz 3 z3.1.k z2.1.f z2.1.j z2.1.x3 z2.1.t15 z2.1.t16 z2.1.t17 z2.1.pl z3.1.x4 z3.1.t18)),(N,(lst [(.str J10 T)] 0)),((N + 1),(lst z2.1.c z2.1.ec)),((N + 2),(lst z2.1.bs z2.1.e2)),((N + 3),(fds "range" [(.int 0 (T + 5)),(.int sz t21),(.int 1 (T + 6))])),((N + 4),(RI [(.int z2.1.i 0),(.int 0 0),(.int 1 0)])),(z2.1.N,(LI [.none,(.int z3.1.i 0)])),(z3.1.N,(tup [(.int z2.1.f z2.1.t15),(.ref (N + 2))] 0))]) (z3.1.N + 1) z3.1.T):=fx 3 ⟨⟨()⟩,fun z1=>⟨g0⟩,fun z1 z2=>⟨g1 z2.1⟩,fun z1 z2 z3=>trivial⟩ (by kernel_rfl)
end
section
variable {w:World} {b:Bool} (O:(cfg b w.params).Ok PG w)
include O
theorem con_runN {d u n:Nat} {c:Code} {rd L' rest:Led} {N T N' T':Nat} {f:Flow} {q:Pst} {mem ctl:List Nat} (js:List Nat)
    (hF:(Fam.fin (.ok (.done f)) L' N' T').Fits fun os=>run (cfg b w.params) n mem ctl os c .base (Dq c) rd N T [] [] [] [])
    (hq:q.f.res = .ok f) (hL:L' = (rd.map (·.1)).zip q.wr++rest) (hl:q.wr.length = rd.length) (hN':q.N = N') (hT':q.T = T') (hj:js.Nodup) (hn:q.nw = rdK js rest) :
    CG w b d u c rd N T (fun _:Unit=>q):=by
  refine coni fun A h g dr os G hz _ _ D hN hG=>?_
  have z:=code_run (A:=A) (hA:=hz) (R:=fun r s'=>∃ z:Unit,r = q.f.res ∧ Aft ⟨h,g,dr,T,os⟩ s' rd q) (g:=g) (d:=dr) (os:=os) O hF D hN (fun h' D' hN''=>by
    show ∃ z:Unit,_
    refine ⟨(),by rw [hq],?_⟩
    have:=aft_ix (s:=⟨h,g,dr,T,os⟩) (q:=q) D' hL (by rw [hN',hN'']) hl js hj hn
    rw [hT'] at this
    exact this)
  exact hG z
theorem conRI {d u N T:Nat} {a:Addr} {t0 t1 t2:Tok} {sz:Int} (h:sz = 8 ∨ sz = 9 ∨ sz = 10 ∨ sz = 11 ∨ sz = 12) :
    CG w b d u (.builtin "range.__iter__" ⟨[.ref a],[]⟩) [(a,fds "range" [.int 0 t0,.int sz t1,.int 1 t2])] N T
      (fun _:Unit=>⟨.ret (.ref N),[fds "range" [.int 0 t0,.int sz t1,.int 1 t2]],[(N,fds "range_iterator" [.int 0 0,.int sz 0,.int 1 0])],N + 1,T⟩):=by
  rcases h with rfl | rfl | rfl | rfl | rfl
  · exact con_runN O [0] (ri8 b w.params N T a t0 t1 t2) rfl (rest:=[(N,fds "range_iterator" [.int 0 0,.int 8 0,.int 1 0])]) rfl rfl rfl rfl (by decide) rfl
  · exact con_runN O [0] (ri9 b w.params N T a t0 t1 t2) rfl (rest:=[(N,fds "range_iterator" [.int 0 0,.int 9 0,.int 1 0])]) rfl rfl rfl rfl (by decide) rfl
  · exact con_runN O [0] (ri10 b w.params N T a t0 t1 t2) rfl (rest:=[(N,fds "range_iterator" [.int 0 0,.int 10 0,.int 1 0])]) rfl rfl rfl rfl (by decide) rfl
  · exact con_runN O [0] (ri11 b w.params N T a t0 t1 t2) rfl (rest:=[(N,fds "range_iterator" [.int 0 0,.int 11 0,.int 1 0])]) rfl rfl rfl rfl (by decide) rfl
  · exact con_runN O [0] (ri12 b w.params N T a t0 t1 t2) rfl (rest:=[(N,fds "range_iterator" [.int 0 0,.int 12 0,.int 1 0])]) rfl rfl rfl rfl (by decide) rfl
theorem loop_hp {X:LX} {aF it l lb:Addr} {n sz rm f j:Int} {lw:Addr} {S bs:List Value} {x3:Str} {tn t15 t16 t17:Tok} {e e2:Nat} {A:Around} {R:Result → Shared → Prop} {S':List Addr} {h₀:Heap} {g:Array GenState} {d:Drawn} {os:OsState}
    (hz:A.handled = none) (hd:A.depth ≤ 550) (hu:A.units ≤ 5500) (qs:List (Str × Tok)) (hbs:bs = qs.map fun p=>.str p.1 p.2) (Bw:List Value) (hB:Bw.length < 1000)
    (hend:∀ i k x4 t18 e1 h N T,Rep (cfg b w.params) S' h₀ (lexL w.params X n tn S e Bw e1++[(aF,frA10 w.params X l lb sz rm k f j x3 t15 t16 t17 lw x4 t18),(it,fds "list_iterator" [.none,.int i 0]),(lb,lst bs e2)]) h → h.objs.size = N → R (.ok .next) ⟨h,g,d,T,os⟩) :
    ∀ (rest:List (Str × Tok)) (ii:Nat) (i:Int) (B:List Value) (k:Nat → Tok) (x4:Str) (t18:Tok) (e1:Nat) (h:Heap) (N T:Nat),i = ii → qs.drop ii = rest → (B++rest.map fun p=>.str p.1 p.2) = Bw →
      Rep (cfg b w.params) S' h₀ (lexL w.params X n tn S e B e1++[(aF,frA10 w.params X l lb sz rm k f j x3 t15 t16 t17 lw x4 t18),(it,fds "list_iterator" [.ref lb,.int i 0]),(lb,lst bs e2)]) h → h.objs.size = N →
      codeAny (model PG w) A (flB130 aF it) R ⟨h,g,d,T,os⟩
  | [],ii,i,B,k,x4,t18,e1,h,N,T,hi,hr,hw,D,hN=>by
    have hv:bs[ii]? = none:=by
      rw [List.drop_eq_nil_iff] at hr
      rw [hbs]; simpa using hr
    refine code_run O hz (hpz b w.params N T X aF it l lb lw n i sz rm f j 0 S B bs x3 x3 x4 tn (k 0) (k 1) (k 2) (k 3) (k 4) (k 5) (k 6) (k 7) (k 8) (k 9) 0 0 t15 t16 t17 t18 (k 11) (k 12) e e1 e2) D hN (HHx 1 ⟨⟨by decide,conLItE O hi hv⟩,fun _=>trivial,fun _=>?_⟩)
    intro h' D' hN' hq
    refine ⟨hq,block_nil (hend i k x4 t18 e1 h' _ _ ?_ hN')⟩
    have:B = Bw:=by rw [← hw]; simp
    rw [← this]
    exact Rep.sub D'
  | p :: rest,ii,i,B,k,x4,t18,e1,h,N,T,hi,hr,hw,D,hN=>by
    have hv:bs[ii]? = some (.str p.1 p.2):=by
      have:qs[ii]? = some p:=by
        have:=congrArg List.head? hr
        simpa using this
      rw [hbs,List.getElem?_map,this]; rfl
    have hr':qs.drop (ii + 1) = rest:=by
      have:=congrArg List.tail hr
      simpa using this
    have hl:B.length < 1000:=by
      have:=congrArg List.length hw
      simp at this; omega
    refine code_run O hz (hp10 b w.params N T X aF it l lb lw n i sz rm f j 0 S B bs p.1 x3 x4 tn (k 0) (k 1) (k 2) (k 3) (k 4) (k 5) (k 6) (k 7) (k 8) (k 9) p.2 0 t15 t16 t17 t18 (k 11) (k 12) e e1 e2) D hN (HHx 2 ⟨⟨by decide,conLIt hi hv⟩,fun _=>⟨by decide,(con_pt O hl).mono (bd hd rfl) (bd hu rfl)⟩,fun _ _=>trivial,fun _ z2=>?_⟩)
    intro h' D' hN' hq
    refine ⟨hq,?_⟩
    refine loop_hp hz hd hu qs hbs Bw hB hend rest (ii + 1) (i + 1) (sn B (.str p.1 p.2)) k p.1 p.2 (e1 + 1) h' _ _ (by rw [hi]; rfl) hr' ?_ D' hN'
    rw [← hw]; simp [sn]
theorem con_hp10 {X:LX} {aF it l lb:Addr} {n sz rm f j:Int} {lw:Addr} {S B bs:List Value} {x3 x4:Str} {k:Nat → Tok} {tn t15 t16 t17 t18:Tok} {e e1 e2 N T:Nat} (xs:List Str) (hbs:TX bs xs) (hB:B.length + xs.length < 1000) :
    CG w b 550 5500 (flB130 aF it) (lexL w.params X n tn S e B e1++[(aF,frA10 w.params X l lb sz rm k f j x3 t15 t16 t17 lw x4 t18),(it,fds "list_iterator" [.ref lb,.int 0 0]),(lb,lst bs e2)]) N T
      (fun z:{y:HB // y.B = B++bs}=>⟨.next,lexO w.params X n tn S e z.1.B z.1.e1++[frA10 w.params X l lb sz rm z.1.k f j x3 t15 t16 t17 lw z.1.x4 z.1.t18,fds "list_iterator" [.none,.int z.1.i 0],lst bs e2],[],z.1.N,z.1.T⟩):=by
  refine coni fun A h g dr os G hz hd hu D hN hG=>?_
  obtain ⟨qs,hq1,hq2⟩:=hbs
  have hlen:qs.length = xs.length:=by rw [← hq2]; simp
  refine hG ?_
  refine loop_hp O hz hd hu qs hq1 (B++bs) (by rw [hq1]; simp; omega) ?_ qs 0 0 B k x4 t18 e1 h N T rfl (by simp) (by rw [hq1]) D hN
  intro i k' x4' t18' e1' h' N' T' D' hN'
  exact ⟨⟨⟨B++bs,e1',i,k',x4',t18',N',T'⟩,rfl⟩,rfl,aft_plain (q:=⟨.next,lexO w.params X n tn S e (B++bs) e1'++[frA10 w.params X l lb sz rm k' f j x3 t15 t16 t17 lw x4' t18',fds "list_iterator" [.none,.int i 0],lst bs e2],[],N',T'⟩) D' rfl hN' rfl⟩
theorem con_hp9 {X:LX} {aF it l lb:Addr} {n sz rm f j:Int} {lw:Addr} {S B bs:List Value} {x3:Str} {k:Nat → Tok} {tn t15 t16 t17:Tok} {e e1 e2 N T:Nat} (xs:List Str) (h0:xs ≠ []) (hbs:TX bs xs) (hB:B.length + xs.length < 1000) :
    CG w b 550 5500 (flB130 aF it) (lexL w.params X n tn S e B e1++[(aF,frA9 w.params X l lb sz rm k f j x3 t15 t16 t17 lw),(it,fds "list_iterator" [.ref lb,.int 0 0]),(lb,lst bs e2)]) N T
      (fun z:{y:HB // y.B = B++bs}=>⟨.next,lexO w.params X n tn S e z.1.B z.1.e1++[frA10 w.params X l lb sz rm z.1.k f j x3 t15 t16 t17 lw z.1.x4 z.1.t18,fds "list_iterator" [.none,.int z.1.i 0],lst bs e2],[],z.1.N,z.1.T⟩):=by
  refine coni fun A h g dr os G hz hd hu D hN hG=>?_
  obtain ⟨qs,hq1,hq2⟩:=hbs
  have hlen:qs.length = xs.length:=by rw [← hq2]; simp
  cases qs with
  | nil=>exact absurd hq2.symm h0
  | cons p rest=>
    have hl:B.length < 1000:=by omega
    have hv:bs[0]? = some (.str p.1 p.2):=by rw [hq1]; rfl
    refine hG ?_
    refine code_run O hz (hp9 b w.params N T X aF it l lb lw n 0 sz rm f j 0 S B bs p.1 x3 x3 tn (k 0) (k 1) (k 2) (k 3) (k 4) (k 5) (k 6) (k 7) (k 8) (k 9) p.2 0 t15 t16 t17 0 (k 11) (k 12) e e1 e2) D hN (HHx 2 ⟨⟨by decide,conLIt (i:=0) rfl hv⟩,fun _=>⟨by decide,(con_pt O hl).mono (bd hd rfl) (bd hu rfl)⟩,fun _ _=>trivial,fun _ z2=>?_⟩)
    intro h' D' hN' hq
    refine ⟨hq,?_⟩
    refine loop_hp O hz hd hu (p :: rest) hq1 (B++bs) (by rw [hq1]; simp at hlen ⊢; omega) ?_ rest 1 (0 + 1) (sn B (.str p.1 p.2)) (fun i=>match i with | 9=>T | i=>k i) p.1 p.2 (e1 + 1) h' _ _ rfl (by simp) (by rw [hq1]; simp [sn]) D' hN'
    intro i k' x4' t18' e1' h' N' T' D' hN'
    exact ⟨⟨⟨B++bs,e1',i,k',x4',t18',N',T'⟩,rfl⟩,rfl,aft_plain (q:=⟨.next,lexO w.params X n tn S e (B++bs) e1'++[frA10 w.params X l lb sz rm k' f j x3 t15 t16 t17 lw x4' t18',fds "list_iterator" [.none,.int i 0],lst bs e2],[],N',T'⟩) D' rfl hN' rfl⟩
theorem loop_rp {X:LX} {aF it l lb:Addr} {n sz rm f j:Int} {pl:Int} {S bs:List Value} {x3:Str} {tn t15 t16 t17:Tok} {e e2:Nat} {A:Around} {R:Result → Shared → Prop} {S':List Addr} {h₀:Heap} {g:Array GenState} {d:Drawn} {os:OsState}
    (hz:A.handled = none) (hd:A.depth ≤ 550) (hu:A.units ≤ 5500) (qs:List (Str × Tok)) (hbs:bs = qs.map fun p=>.str p.1 p.2) (Bw:List Value) (hB:Bw.length < 1000)
    (hend:∀ i k x4 t18 e1 h N T,Rep (cfg b w.params) S' h₀ (lexL w.params X n tn S e Bw e1++[(aF,frR10 w.params X l lb sz rm k f j x3 t15 t16 t17 pl x4 t18),(it,fds "list_iterator" [.none,.int i 0]),(lb,lst bs e2)]) h → h.objs.size = N → R (.ok .next) ⟨h,g,d,T,os⟩) :
    ∀ (rest:List (Str × Tok)) (ii:Nat) (i:Int) (B:List Value) (k:Nat → Tok) (x4:Str) (t18:Tok) (e1:Nat) (h:Heap) (N T:Nat),i = ii → qs.drop ii = rest → (B++rest.map fun p=>.str p.1 p.2) = Bw →
      Rep (cfg b w.params) S' h₀ (lexL w.params X n tn S e B e1++[(aF,frR10 w.params X l lb sz rm k f j x3 t15 t16 t17 pl x4 t18),(it,fds "list_iterator" [.ref lb,.int i 0]),(lb,lst bs e2)]) h → h.objs.size = N →
      codeAny (model PG w) A (flB137 aF it) R ⟨h,g,d,T,os⟩
  | [],ii,i,B,k,x4,t18,e1,h,N,T,hi,hr,hw,D,hN=>by
    have hv:bs[ii]? = none:=by
      rw [List.drop_eq_nil_iff] at hr
      rw [hbs]; simpa using hr
    refine code_run O hz (rpz b w.params N T X aF it l lb 0 n i sz rm f j pl S B bs x3 x3 x4 tn (k 0) (k 1) (k 2) (k 3) (k 4) (k 5) (k 6) (k 7) (k 8) (k 9) 0 t18 t15 t16 t17 (k 13) (k 11) (k 12) e e1 e2) D hN (HHx 1 ⟨⟨by decide,conLItE O hi hv⟩,fun _=>trivial,fun _=>?_⟩)
    intro h' D' hN' hq
    refine ⟨hq,block_nil (hend i k x4 t18 e1 h' _ _ ?_ hN')⟩
    have:B = Bw:=by rw [← hw]; simp
    rw [← this]
    exact Rep.sub D'
  | p :: rest,ii,i,B,k,x4,t18,e1,h,N,T,hi,hr,hw,D,hN=>by
    have hv:bs[ii]? = some (.str p.1 p.2):=by
      have:qs[ii]? = some p:=by
        have:=congrArg List.head? hr
        simpa using this
      rw [hbs,List.getElem?_map,this]; rfl
    have hr':qs.drop (ii + 1) = rest:=by
      have:=congrArg List.tail hr
      simpa using this
    have hl:B.length < 1000:=by
      have:=congrArg List.length hw
      simp at this; omega
    refine code_run O hz (rp10 b w.params N T X aF it l lb 0 n i sz rm f j pl S B bs p.1 x3 x4 tn (k 0) (k 1) (k 2) (k 3) (k 4) (k 5) (k 6) (k 7) (k 8) (k 9) p.2 t18 t15 t16 t17 (k 13) (k 11) (k 12) e e1 e2) D hN (HHx 2 ⟨⟨by decide,conLIt hi hv⟩,fun _=>⟨by decide,(con_pt O hl).mono (bd hd rfl) (bd hu rfl)⟩,fun _ _=>trivial,fun _ z2=>?_⟩)
    intro h' D' hN' hq
    refine ⟨hq,?_⟩
    refine loop_rp hz hd hu qs hbs Bw hB hend rest (ii + 1) (i + 1) (sn B (.str p.1 p.2)) k p.1 p.2 (e1 + 1) h' _ _ (by rw [hi]; rfl) hr' ?_ D' hN'
    rw [← hw]; simp [sn]
theorem con_rp9 {X:LX} {aF it l lb:Addr} {n sz rm f j:Int} {pl:Int} {S B bs:List Value} {x3:Str} {k:Nat → Tok} {tn t15 t16 t17:Tok} {e e1 e2 N T:Nat} (xs:List Str) (h0:xs ≠ []) (hbs:TX bs xs) (hB:B.length + xs.length < 1000) :
    CG w b 550 5500 (flB137 aF it) (lexL w.params X n tn S e B e1++[(aF,frR9 w.params X l lb sz rm k f j x3 t15 t16 t17 pl),(it,fds "list_iterator" [.ref lb,.int 0 0]),(lb,lst bs e2)]) N T
      (fun z:{y:HB // y.B = B++bs}=>⟨.next,lexO w.params X n tn S e z.1.B z.1.e1++[frR10 w.params X l lb sz rm z.1.k f j x3 t15 t16 t17 pl z.1.x4 z.1.t18,fds "list_iterator" [.none,.int z.1.i 0],lst bs e2],[],z.1.N,z.1.T⟩):=by
  refine coni fun A h g dr os G hz hd hu D hN hG=>?_
  obtain ⟨qs,hq1,hq2⟩:=hbs
  have hlen:qs.length = xs.length:=by rw [← hq2]; simp
  cases qs with
  | nil=>exact absurd hq2.symm h0
  | cons p rest=>
    have hl:B.length < 1000:=by omega
    have hv:bs[0]? = some (.str p.1 p.2):=by rw [hq1]; rfl
    refine hG ?_
    refine code_run O hz (rp9 b w.params N T X aF it l lb 0 n 0 sz rm f j pl S B bs p.1 x3 x3 tn (k 0) (k 1) (k 2) (k 3) (k 4) (k 5) (k 6) (k 7) (k 8) (k 9) p.2 0 t15 t16 t17 (k 13) (k 11) (k 12) e e1 e2) D hN (HHx 2 ⟨⟨by decide,conLIt (i:=0) rfl hv⟩,fun _=>⟨by decide,(con_pt O hl).mono (bd hd rfl) (bd hu rfl)⟩,fun _ _=>trivial,fun _ z2=>?_⟩)
    intro h' D' hN' hq
    refine ⟨hq,?_⟩
    refine loop_rp O hz hd hu (p :: rest) hq1 (B++bs) (by rw [hq1]; simp at hlen ⊢; omega) ?_ rest 1 (0 + 1) (sn B (.str p.1 p.2)) (fun i=>match i with | 9=>T | i=>k i) p.1 p.2 (e1 + 1) h' _ _ rfl (by simp) (by rw [hq1]; simp [sn]) D' hN'
    intro i k' x4' t18' e1' h' N' T' D' hN'
    exact ⟨⟨⟨B++bs,e1',i,k',x4',t18',N',T'⟩,rfl⟩,rfl,aft_plain (q:=⟨.next,lexO w.params X n tn S e (B++bs) e1'++[frR10 w.params X l lb sz rm k' f j x3 t15 t16 t17 pl x4' t18',fds "list_iterator" [.none,.int i 0],lst bs e2],[],N',T'⟩) D' rfl hN' rfl⟩
end
end Mine
end
section
namespace Mine
structure HC where
  q:LS
  lb:Addr
  tu:Addr
  bs:List Value
  e2:Nat
  f:Int
  tf:Tok
  N:Nat
  T:Nat
noncomputable def HCok (n:Int) (r:List Str × Int) (z:HC):Prop:=z.q.n = n ∧ z.q.S = [] ∧ z.q.B = z.bs ∧ TX z.bs r.1 ∧ z.f = r.2
noncomputable def GA (n:Int) (r:List Str × Int) (z:HA):Prop:=(z.q.n = n ∧ z.q.S = [] ∧ z.q.B = []) ∧ TX z.bs r.1 ∧ z.f = r.2
noncomputable def GB (z:HA) (y:HB):Prop:=y.B = z.q.B++z.bs
noncomputable def gA (n:Int) (r:List Str × Int):{z:HA // GA n r z}:=⟨⟨⟨n,0,[],0,[],0⟩,0,r.2,0,sg [],fun _=>0,0,0,0,0,sg [],0,0,[],r.1.map fun x=>.str x 0,0,0,0,0⟩,⟨rfl,rfl,rfl⟩,⟨r.1.map fun x=>(x,0),by simp,by simp [Function.comp_def]⟩,rfl⟩
noncomputable def gB (z:HA):{y:HB // GB z y}:=⟨⟨z.q.B++z.bs,0,0,fun _=>0,sg [],0,0,0⟩,rfl⟩
noncomputable def Fd (n:Int) (s:LS):Prop:=s.n = n ∧ s.S = [] ∧ s.B = []
noncomputable def kI (t0 t1 t2 t3 t4 t5 t11 t12:Tok) (i:Nat):Tok:=match i with | 0=>t0 | 1=>t1 | 2=>t2 | 3=>t3 | 4=>t4 | 5=>t5 | 11=>t11 | 12=>t12 | _=>0
theorem rl_len1:∀ (ws:List Str) (a:Str),(rH1 ws a).1.length = ws.length
  | [],_=>rfl
  | h :: ws,a=>by simp [rH1,rl_len1 ws]
theorem rl_len2:∀ (ws:List Str) (a c:Str),(rH2 ws a c).1.length = ws.length
  | [],_,_=>rfl
  | h :: ws,a,c=>by
    rw [rH2]; repeat' split
    all_goals simp [rl_len2 ws]
theorem rl_len3:∀ (ws:List Str) (a c:Str),(rR2 ws a c).1.length = ws.length
  | [],_,_=>rfl
  | h :: ws,a,c=>by
    rw [rR2]; repeat' split
    all_goals simp [rl_len3 ws]
theorem rl_len4:∀ (ws:List Str) (a c y:Str),(rR3 ws a c y).1.length = ws.length
  | [],_,_,_=>rfl
  | h :: ws,a,c,y=>by
    rw [rR3]; repeat' split
    all_goals simp [rl_len4 ws]
section
variable {w:World} {b:Bool} (O:(cfg b w.params).Ok PG w)
include O
theorem conA_h1 {X:LX} {aF it l lb:Addr} {sz m:Int} {k:Nat → Tok} {ws:List Str} {q:LS} {n':Int} {t15 ta:Tok} {ec e2 N T:Nat} (hm:m = ws.length) (h0:ws ≠ []) (hl:ws.length ≤ 100) (hy:Yields w b X (Fd n') ws q) :
    CG w b 550 5500 (flA130 aF it) (LF w.params X aF it l lb sz 1 k q 0 m 0 t15 [.str (sg []) ta] [] ec e2) N T
      (fun z:{z:HA // GA n' (rH1 ws (sg [])) z}=>⟨.next,lexO w.params X z.1.q.n z.1.q.tn z.1.q.S z.1.q.e z.1.q.B z.1.q.e1++[(frA9 w.params X l lb sz 1 z.1.k z.1.f z.1.j z.1.x3 z.1.t15 z.1.t16 z.1.t17 z.1.lw),fds "range_iterator" [.int z.1.i 0,.int 0 0,.int 1 0],lst z.1.c z.1.ec,lst z.1.bs z.1.e2],[],z.1.N,z.1.T⟩):=by
  refine coni fun A h g dr os G hz hd hu D hN hG=>?_
  cases ws with
  | nil=>exact absurd rfl h0
  | cons x ws=>
    subst hm
    refine hG ?_
    refine first_h1 O (f:=0) hz hd hu ?_ hy (by simp at hl; omega) D hN
    intro k q i f j x3 t15 t16 t17 lw c bs ec e2 h' N' T' hF hb hf D' hN'
    exact ⟨⟨⟨q,i,f,j,x3,k,t15,t16,t17,lw,sg [],0,0,c,bs,ec,e2,N',T'⟩,hF,hb,hf⟩,rfl,aft_plain (q:=⟨.next,lexO w.params X q.n q.tn q.S q.e q.B q.e1++[frA9 w.params X l lb sz 1 k f j x3 t15 t16 t17 lw,fds "range_iterator" [.int i 0,.int 0 0,.int 1 0],lst c ec,lst bs e2],[],N',T'⟩) D' rfl hN' rfl⟩
theorem con_h1 {X:LX} {sz:Int} {ws:List Str} {q:LS} {n':Int} {ts tr:Tok} {N T:Nat} (hsz:sz = ws.length) (h8:sz = 8 ∨ sz = 9 ∨ sz = 10 ∨ sz = 11 ∨ sz = 12) (hy:Yields w b X (Fd n') ws q) :
    CG w b 540 5400 (.call (.ref 130) ⟨[.ref X.a,.int sz ts,.int 1 tr],[]⟩) (lexL w.params X q.n q.tn q.S q.e q.B q.e1) N T
      (fun z:{z:HC // HCok n' (rH1 ws (sg [])) z}=>⟨.ret (.ref z.1.tu),lexO w.params X z.1.q.n z.1.q.tn z.1.q.S z.1.q.e z.1.q.B z.1.q.e1,[(z.1.lb,lst z.1.bs z.1.e2),(z.1.tu,tup [.int z.1.f z.1.tf,.ref z.1.lb] 0)],z.1.N,z.1.T⟩):=by
  have hl:ws.length ≤ 100:=by omega
  have h0:ws ≠ []:=by rintro rfl; simp at hsz; omega
  refine con_fn O (fn130 b w.params) (by decide) (ent130 b w.params N T (.ref X.a) (.int sz ts) (.int 1 tr)) ?_
  intro A s h hz hA hu hN D hN1
  refine code_run O hz (hp1 b w.params _ _ (GA n' (rH1 ws (sg []))) (gA _ _) GB gB X N q.n sz q.S q.B q.tn _ _ _ ts tr q.e q.e1) D hN1 (HHx 3 ⟨⟨by decide,conRI O h8⟩,fun _=>⟨by decide,(conA_h1 (k:=kI T (T + 1) (T + 2) (T + 3 + 1) (T + 3 + 2) (T + 3 + 4) ts tr) O hsz h0 hl hy).mono (bd hA rfl) (bd hu rfl)⟩,fun _ z2=>⟨by decide,(con_hp9 O (rH1 ws (sg [])).1 (by intro h; have:=congrArg List.length h; rw [rl_len1] at this; exact h0 (List.length_eq_zero_iff.mp this)) z2.2.2.1 (by rw [z2.2.1.2.2,rl_len1]; simp; omega)).mono (bd hA rfl) (bd hu rfl)⟩,fun _ _ _=>trivial,fun _ z2 z3=>?_⟩)
  intro h' D' hN'
  refine ⟨⟨⟨⟨z2.1.q.n,z2.1.q.tn,z2.1.q.S,z2.1.q.e,z3.1.B,z3.1.e1⟩,N + 1 + 2,z3.1.N,z2.1.bs,z2.1.e2,z2.1.f,z2.1.t15,z3.1.N + 1,z3.1.T⟩,z2.2.1.1,z2.2.1.2.1,?_,z2.2.2.1,z2.2.2.2⟩,rfl,?_⟩
  · have h1:z3.1.B = z2.1.q.B++z2.1.bs:=z3.2
    show z3.1.B = z2.1.bs
    rw [h1,z2.2.1.2.2]; rfl
  exact aft_ix (q:=⟨.ret (.ref z3.1.N),lexO w.params X z2.1.q.n z2.1.q.tn z2.1.q.S z2.1.q.e z3.1.B z3.1.e1,[(N + 1 + 2,lst z2.1.bs z2.1.e2),(z3.1.N,tup [.int z2.1.f z2.1.t15,.ref (N + 1 + 2)] 0)],z3.1.N + 1,z3.1.T⟩) D' rfl hN' rfl [3,7] (by decide) rfl
theorem conA_h2 {X:LX} {aF it l lb:Addr} {sz m:Int} {k:Nat → Tok} {ws:List Str} {q:LS} {n':Int} {t15 ta tc:Tok} {ec e2 N T:Nat} (hm:m = ws.length) (h0:ws ≠ []) (hl:ws.length ≤ 100) (hy:Yields w b X (Fd n') ws q) :
    CG w b 550 5500 (flA130 aF it) (LF w.params X aF it l lb sz 2 k q 0 m 0 t15 [.str (sg []) ta,.str (sg []) tc] [] ec e2) N T
      (fun z:{z:HA // GA n' (rH2 ws (sg []) (sg [])) z}=>⟨.next,lexO w.params X z.1.q.n z.1.q.tn z.1.q.S z.1.q.e z.1.q.B z.1.q.e1++[(frA10 w.params X l lb sz 2 z.1.k z.1.f z.1.j z.1.x3 z.1.t15 z.1.t16 z.1.t17 z.1.lw z.1.x4 z.1.t18),fds "range_iterator" [.int z.1.i 0,.int 0 0,.int 1 0],lst z.1.c z.1.ec,lst z.1.bs z.1.e2],[],z.1.N,z.1.T⟩):=by
  refine coni fun A h g dr os G hz hd hu D hN hG=>?_
  cases ws with
  | nil=>exact absurd rfl h0
  | cons x ws=>
    subst hm
    refine hG ?_
    refine first_h2 O (f:=0) hz hd hu ?_ hy (by simp at hl; omega) D hN
    intro k q i f j x3 t15 t16 t17 lw x4 t18 c bs ec e2 h' N' T' hF hb hf D' hN'
    exact ⟨⟨⟨q,i,f,j,x3,k,t15,t16,t17,lw,x4,t18,0,c,bs,ec,e2,N',T'⟩,hF,hb,hf⟩,rfl,aft_plain (q:=⟨.next,lexO w.params X q.n q.tn q.S q.e q.B q.e1++[frA10 w.params X l lb sz 2 k f j x3 t15 t16 t17 lw x4 t18,fds "range_iterator" [.int i 0,.int 0 0,.int 1 0],lst c ec,lst bs e2],[],N',T'⟩) D' rfl hN' rfl⟩
theorem con_h2 {X:LX} {sz:Int} {ws:List Str} {q:LS} {n':Int} {ts tr:Tok} {N T:Nat} (hsz:sz = ws.length) (h8:sz = 8 ∨ sz = 9 ∨ sz = 10 ∨ sz = 11 ∨ sz = 12) (hy:Yields w b X (Fd n') ws q) :
    CG w b 540 5400 (.call (.ref 130) ⟨[.ref X.a,.int sz ts,.int 2 tr],[]⟩) (lexL w.params X q.n q.tn q.S q.e q.B q.e1) N T
      (fun z:{z:HC // HCok n' (rH2 ws (sg []) (sg [])) z}=>⟨.ret (.ref z.1.tu),lexO w.params X z.1.q.n z.1.q.tn z.1.q.S z.1.q.e z.1.q.B z.1.q.e1,[(z.1.lb,lst z.1.bs z.1.e2),(z.1.tu,tup [.int z.1.f z.1.tf,.ref z.1.lb] 0)],z.1.N,z.1.T⟩):=by
  have hl:ws.length ≤ 100:=by omega
  have h0:ws ≠ []:=by rintro rfl; simp at hsz; omega
  refine con_fn O (fn130 b w.params) (by decide) (ent130 b w.params N T (.ref X.a) (.int sz ts) (.int 2 tr)) ?_
  intro A s h hz hA hu hN D hN1
  refine code_run O hz (hp2 b w.params _ _ (GA n' (rH2 ws (sg []) (sg []))) (gA _ _) GB gB X N q.n sz q.S q.B q.tn _ _ _ ts tr q.e q.e1) D hN1 (HHx 3 ⟨⟨by decide,conRI O h8⟩,fun _=>⟨by decide,(conA_h2 (k:=kI T (T + 1) (T + 2) (T + 3 + 1) (T + 3 + 2) (T + 3 + 4) ts tr) O hsz h0 hl hy).mono (bd hA rfl) (bd hu rfl)⟩,fun _ z2=>⟨by decide,(con_hp10 O (rH2 ws (sg []) (sg [])).1 z2.2.2.1 (by rw [z2.2.1.2.2,rl_len2]; simp; omega)).mono (bd hA rfl) (bd hu rfl)⟩,fun _ _ _=>trivial,fun _ z2 z3=>?_⟩)
  intro h' D' hN'
  refine ⟨⟨⟨⟨z2.1.q.n,z2.1.q.tn,z2.1.q.S,z2.1.q.e,z3.1.B,z3.1.e1⟩,N + 1 + 2,z3.1.N,z2.1.bs,z2.1.e2,z2.1.f,z2.1.t15,z3.1.N + 1,z3.1.T⟩,z2.2.1.1,z2.2.1.2.1,?_,z2.2.2.1,z2.2.2.2⟩,rfl,?_⟩
  · have h1:z3.1.B = z2.1.q.B++z2.1.bs:=z3.2
    show z3.1.B = z2.1.bs
    rw [h1,z2.2.1.2.2]; rfl
  exact aft_ix (q:=⟨.ret (.ref z3.1.N),lexO w.params X z2.1.q.n z2.1.q.tn z2.1.q.S z2.1.q.e z3.1.B z3.1.e1,[(N + 1 + 2,lst z2.1.bs z2.1.e2),(z3.1.N,tup [.int z2.1.f z2.1.t15,.ref (N + 1 + 2)] 0)],z3.1.N + 1,z3.1.T⟩) D' rfl hN' rfl [3,7] (by decide) rfl
theorem conA_r2 {X:LX} {aF it l lb:Addr} {sz m:Int} {k:Nat → Tok} {ws:List Str} {q:LS} {n':Int} {t15 ta tc:Tok} {ec e2 N T:Nat} (hm:m = ws.length) (h0:ws ≠ []) (hl:ws.length ≤ 100) (hy:Yields w b X (Fd n') ws q) :
    CG w b 550 5500 (flA137 aF it) (LF w.params X aF it l lb sz 2 k q 0 m 0 t15 [.str (sg []) ta,.str (sg []) tc] [] ec e2) N T
      (fun z:{z:HA // GA n' (rR2 ws (sg []) (sg [])) z}=>⟨.next,lexO w.params X z.1.q.n z.1.q.tn z.1.q.S z.1.q.e z.1.q.B z.1.q.e1++[(frR9 w.params X l lb sz 2 z.1.k z.1.f z.1.j z.1.x3 z.1.t15 z.1.t16 z.1.t17 z.1.pl),fds "range_iterator" [.int z.1.i 0,.int 0 0,.int 1 0],lst z.1.c z.1.ec,lst z.1.bs z.1.e2],[],z.1.N,z.1.T⟩):=by
  refine coni fun A h g dr os G hz hd hu D hN hG=>?_
  cases ws with
  | nil=>exact absurd rfl h0
  | cons x ws=>
    subst hm
    refine hG ?_
    refine first_r2 O (f:=0) hz hd hu ?_ hy (by simp at hl; omega) D hN
    intro k q i f j x3 t15 t16 t17 pl t18 c bs ec e2 h' N' T' hF hb hf D' hN'
    exact ⟨⟨⟨q,i,f,j,x3,(fun i=>match i with | 13=>t18 | i=>k i),t15,t16,t17,0,sg [],0,pl,c,bs,ec,e2,N',T'⟩,hF,hb,hf⟩,rfl,aft_plain (q:=⟨.next,lexO w.params X q.n q.tn q.S q.e q.B q.e1++[frR9 w.params X l lb sz 2 (fun i=>match i with | 13=>t18 | i=>k i) f j x3 t15 t16 t17 pl,fds "range_iterator" [.int i 0,.int 0 0,.int 1 0],lst c ec,lst bs e2],[],N',T'⟩) D' rfl hN' rfl⟩
theorem con_r2 {X:LX} {sz:Int} {ws:List Str} {q:LS} {n':Int} {ts tr:Tok} {N T:Nat} (hsz:sz = ws.length) (h8:sz = 8 ∨ sz = 9 ∨ sz = 10 ∨ sz = 11 ∨ sz = 12) (hy:Yields w b X (Fd n') ws q) :
    CG w b 540 5400 (.call (.ref 137) ⟨[.ref X.a,.int sz ts,.int 2 tr],[]⟩) (lexL w.params X q.n q.tn q.S q.e q.B q.e1) N T
      (fun z:{z:HC // HCok n' (rR2 ws (sg []) (sg [])) z}=>⟨.ret (.ref z.1.tu),lexO w.params X z.1.q.n z.1.q.tn z.1.q.S z.1.q.e z.1.q.B z.1.q.e1,[(z.1.lb,lst z.1.bs z.1.e2),(z.1.tu,tup [.int z.1.f z.1.tf,.ref z.1.lb] 0)],z.1.N,z.1.T⟩):=by
  have hl:ws.length ≤ 100:=by omega
  have h0:ws ≠ []:=by rintro rfl; simp at hsz; omega
  refine con_fn O (fn137 b w.params) (by decide) (ent137 b w.params N T (.ref X.a) (.int sz ts) (.int 2 tr)) ?_
  intro A s h hz hA hu hN D hN1
  refine code_run O hz (rp2 b w.params _ _ (GA n' (rR2 ws (sg []) (sg []))) (gA _ _) GB gB X N q.n sz q.S q.B q.tn _ _ _ ts tr q.e q.e1) D hN1 (HHx 3 ⟨⟨by decide,conRI O h8⟩,fun _=>⟨by decide,(conA_r2 (k:=kI T (T + 1) (T + 2) (T + 3 + 1) (T + 3 + 2) (T + 3 + 4) ts tr) O hsz h0 hl hy).mono (bd hA rfl) (bd hu rfl)⟩,fun _ z2=>⟨by decide,(con_rp9 O (rR2 ws (sg []) (sg [])).1 (by intro h; have:=congrArg List.length h; rw [rl_len3] at this; exact h0 (List.length_eq_zero_iff.mp this)) z2.2.2.1 (by rw [z2.2.1.2.2,rl_len3]; simp; omega)).mono (bd hA rfl) (bd hu rfl)⟩,fun _ _ _=>trivial,fun _ z2 z3=>?_⟩)
  intro h' D' hN'
  refine ⟨⟨⟨⟨z2.1.q.n,z2.1.q.tn,z2.1.q.S,z2.1.q.e,z3.1.B,z3.1.e1⟩,N + 1 + 2,z3.1.N,z2.1.bs,z2.1.e2,z2.1.f,z2.1.t15,z3.1.N + 1,z3.1.T⟩,z2.2.1.1,z2.2.1.2.1,?_,z2.2.2.1,z2.2.2.2⟩,rfl,?_⟩
  · have h1:z3.1.B = z2.1.q.B++z2.1.bs:=z3.2
    show z3.1.B = z2.1.bs
    rw [h1,z2.2.1.2.2]; rfl
  exact aft_ix (q:=⟨.ret (.ref z3.1.N),lexO w.params X z2.1.q.n z2.1.q.tn z2.1.q.S z2.1.q.e z3.1.B z3.1.e1,[(N + 1 + 2,lst z2.1.bs z2.1.e2),(z3.1.N,tup [.int z2.1.f z2.1.t15,.ref (N + 1 + 2)] 0)],z3.1.N + 1,z3.1.T⟩) D' rfl hN' rfl [3,7] (by decide) rfl
theorem conA_r3 {X:LX} {aF it l lb:Addr} {sz m:Int} {k:Nat → Tok} {ws:List Str} {q:LS} {n':Int} {t15 ta tc ty:Tok} {ec e2 N T:Nat} (hm:m = ws.length) (h0:ws ≠ []) (hl:ws.length ≤ 100) (hy:Yields w b X (Fd n') ws q) :
    CG w b 550 5500 (flA137 aF it) (LF w.params X aF it l lb sz 3 k q 0 m 0 t15 [.str (sg []) ta,.str (sg []) tc,.str (sg []) ty] [] ec e2) N T
      (fun z:{z:HA // GA n' (rR3 ws (sg []) (sg []) (sg [])) z}=>⟨.next,lexO w.params X z.1.q.n z.1.q.tn z.1.q.S z.1.q.e z.1.q.B z.1.q.e1++[(frR9 w.params X l lb sz 3 z.1.k z.1.f z.1.j z.1.x3 z.1.t15 z.1.t16 z.1.t17 z.1.pl),fds "range_iterator" [.int z.1.i 0,.int 0 0,.int 1 0],lst z.1.c z.1.ec,lst z.1.bs z.1.e2],[],z.1.N,z.1.T⟩):=by
  refine coni fun A h g dr os G hz hd hu D hN hG=>?_
  cases ws with
  | nil=>exact absurd rfl h0
  | cons x ws=>
    subst hm
    refine hG ?_
    refine first_r3 O (f:=0) hz hd hu ?_ hy (by simp at hl; omega) D hN
    intro k q i f j x3 t15 t16 t17 pl t18 c bs ec e2 h' N' T' hF hb hf D' hN'
    exact ⟨⟨⟨q,i,f,j,x3,(fun i=>match i with | 13=>t18 | i=>k i),t15,t16,t17,0,sg [],0,pl,c,bs,ec,e2,N',T'⟩,hF,hb,hf⟩,rfl,aft_plain (q:=⟨.next,lexO w.params X q.n q.tn q.S q.e q.B q.e1++[frR9 w.params X l lb sz 3 (fun i=>match i with | 13=>t18 | i=>k i) f j x3 t15 t16 t17 pl,fds "range_iterator" [.int i 0,.int 0 0,.int 1 0],lst c ec,lst bs e2],[],N',T'⟩) D' rfl hN' rfl⟩
theorem con_r3 {X:LX} {sz:Int} {ws:List Str} {q:LS} {n':Int} {ts tr:Tok} {N T:Nat} (hsz:sz = ws.length) (h8:sz = 8 ∨ sz = 9 ∨ sz = 10 ∨ sz = 11 ∨ sz = 12) (hy:Yields w b X (Fd n') ws q) :
    CG w b 540 5400 (.call (.ref 137) ⟨[.ref X.a,.int sz ts,.int 3 tr],[]⟩) (lexL w.params X q.n q.tn q.S q.e q.B q.e1) N T
      (fun z:{z:HC // HCok n' (rR3 ws (sg []) (sg []) (sg [])) z}=>⟨.ret (.ref z.1.tu),lexO w.params X z.1.q.n z.1.q.tn z.1.q.S z.1.q.e z.1.q.B z.1.q.e1,[(z.1.lb,lst z.1.bs z.1.e2),(z.1.tu,tup [.int z.1.f z.1.tf,.ref z.1.lb] 0)],z.1.N,z.1.T⟩):=by
  have hl:ws.length ≤ 100:=by omega
  have h0:ws ≠ []:=by rintro rfl; simp at hsz; omega
  refine con_fn O (fn137 b w.params) (by decide) (ent137 b w.params N T (.ref X.a) (.int sz ts) (.int 3 tr)) ?_
  intro A s h hz hA hu hN D hN1
  refine code_run O hz (rp3 b w.params _ _ (GA n' (rR3 ws (sg []) (sg []) (sg []))) (gA _ _) GB gB X N q.n sz q.S q.B q.tn _ _ _ ts tr q.e q.e1) D hN1 (HHx 3 ⟨⟨by decide,conRI O h8⟩,fun _=>⟨by decide,(conA_r3 (k:=kI T (T + 1) (T + 2) (T + 3 + 1) (T + 3 + 2) (T + 3 + 4) ts tr) O hsz h0 hl hy).mono (bd hA rfl) (bd hu rfl)⟩,fun _ z2=>⟨by decide,(con_rp9 O (rR3 ws (sg []) (sg []) (sg [])).1 (by intro h; have:=congrArg List.length h; rw [rl_len4] at this; exact h0 (List.length_eq_zero_iff.mp this)) z2.2.2.1 (by rw [z2.2.1.2.2,rl_len4]; simp; omega)).mono (bd hA rfl) (bd hu rfl)⟩,fun _ _ _=>trivial,fun _ z2 z3=>?_⟩)
  intro h' D' hN'
  refine ⟨⟨⟨⟨z2.1.q.n,z2.1.q.tn,z2.1.q.S,z2.1.q.e,z3.1.B,z3.1.e1⟩,N + 1 + 2,z3.1.N,z2.1.bs,z2.1.e2,z2.1.f,z2.1.t15,z3.1.N + 1,z3.1.T⟩,z2.2.1.1,z2.2.1.2.1,?_,z2.2.2.1,z2.2.2.2⟩,rfl,?_⟩
  · have h1:z3.1.B = z2.1.q.B++z2.1.bs:=z3.2
    show z3.1.B = z2.1.bs
    rw [h1,z2.2.1.2.2]; rfl
  exact aft_ix (q:=⟨.ret (.ref z3.1.N),lexO w.params X z2.1.q.n z2.1.q.tn z2.1.q.S z2.1.q.e z3.1.B z3.1.e1,[(N + 1 + 2,lst z2.1.bs z2.1.e2),(z3.1.N,tup [.int z2.1.f z2.1.t15,.ref (N + 1 + 2)] 0)],z3.1.N + 1,z3.1.T⟩) D' rfl hN' rfl [3,7] (by decide) rfl
end
end Mine
end
section
namespace Mine
noncomputable def dob (es:Array DictEntry) (e:Nat):Obj:=⟨.type "dict",none,.dict es e,#[]⟩
noncomputable def VI:List (Str × Value) → List (Str × Int) → Prop
  | [],[]=>True
  | p :: r,q :: r'=>p.1 = q.1 ∧ (∃ t,p.2 = .int q.2 t) ∧ VI r r'
  | _,_=>False
noncomputable def lookI (ns:List (Str × Int)) (k:Str):Option Int:=(ns.find? fun p=>decide (p.1 = k)).map (·.2)
noncomputable def storeI (ns:List (Str × Int)) (k:Str) (n:Int):List (Str × Int):=if ns.any (fun p=>decide (p.1 = k)) then ns.map (fun p=>if p.1 = k then (p.1,n) else p) else ns++[(k,n)]
theorem VI.len:∀ {kvs:List (Str × Value)} {ns:List (Str × Int)},VI kvs ns → kvs.length = ns.length
  | [],[],_=>rfl
  | p :: r,q :: r',h=>by simp [VI.len h.2.2]
  | [],_ :: _,h=>h.elim
  | _ :: _,[],h=>h.elim
theorem VI.look:∀ {kvs:List (Str × Value)} {ns:List (Str × Int)} (_:VI kvs ns) (k:Str),(lookI ns k = none ∧ valueAt kvs k = none) ∨ ∃ n t,lookI ns k = some n ∧ valueAt kvs k = some (.int n t)
  | [],[],_,k=>.inl ⟨rfl,rfl⟩
  | p :: r,q :: r',h,k=>by
    obtain ⟨h1,⟨t,h2⟩,h3⟩:=h
    by_cases e:q.1 = k
    · refine .inr ⟨q.2,t,?_,?_⟩
      · simp [lookI,e]
      · simp [valueAt,h1,e,h2]
    · have:=VI.look h3 k
      simp only [lookI,valueAt,List.find?_cons,h1,e,decide_false] at this ⊢
      exact this
  | [],_ :: _,h,_=>h.elim
  | _ :: _,[],h,_=>h.elim
theorem VI.any:∀ {kvs:List (Str × Value)} {ns:List (Str × Int)} (_:VI kvs ns) (k:Str),kvs.any (fun kv=>decide (kv.1 = k)) = ns.any (fun p=>decide (p.1 = k))
  | [],[],_,k=>rfl
  | p :: r,q :: r',h,k=>by rw [List.any_cons,List.any_cons,VI.any h.2.2 k,h.1]
  | [],_ :: _,h,_=>h.elim
  | _ :: _,[],h,_=>h.elim
theorem VI.map:∀ {kvs:List (Str × Value)} {ns:List (Str × Int)} (_:VI kvs ns) (k:Str) (n:Int) (t:Tok),VI (kvs.map fun kv=>if kv.1 = k then (kv.1,.int n t) else kv) (ns.map fun p=>if p.1 = k then (p.1,n) else p)
  | [],[],_,_,_,_=>trivial
  | p :: r,q :: r',h,k,n,t=>by
    have ih:=VI.map h.2.2 k n t
    by_cases e:q.1 = k
    · have e':p.1 = k:=h.1.trans e
      simp only [List.map_cons,e,e',if_true]
      exact ⟨rfl,⟨t,rfl⟩,ih⟩
    · have e':¬ p.1 = k:=fun x=>e (h.1.symm.trans x)
      simp only [List.map_cons,e,e',if_false]
      exact ⟨h.1,h.2.1,ih⟩
  | [],_ :: _,h,_,_,_=>h.elim
  | _ :: _,[],h,_,_,_=>h.elim
theorem VI.app:∀ {kvs:List (Str × Value)} {ns:List (Str × Int)} (_:VI kvs ns) (k:Str) (n:Int) (t:Tok),VI (kvs++[(k,.int n t)]) (ns++[(k,n)])
  | [],[],_,_,_,t=>⟨rfl,⟨t,rfl⟩,trivial⟩
  | p :: r,q :: r',h,k,n,t=>⟨h.1,h.2.1,VI.app h.2.2 k n t⟩
  | [],_ :: _,h,_,_,_=>h.elim
  | _ :: _,[],h,_,_,_=>h.elim
theorem VI.stored {kvs:List (Str × Value)} {ns:List (Str × Int)} (h:VI kvs ns) (k:Str) (n:Int) (t:Tok):VI (PySem.stored kvs k (.int n t)) (storeI ns k n):=by
  unfold PySem.stored storeI
  rw [h.any k]
  split
  · exact h.map k n t
  · exact h.app k n t
theorem VI.get:∀ {kvs:List (Str × Value)} {ns:List (Str × Int)} (_:VI kvs ns) (i:Nat) {x:Str} {n:Int},ns[i]? = some (x,n) → ∃ v,kvs[i]? = some (x,v)
  | p :: r,q :: r',h,0,x,n,e=>by
    simp at e
    subst e
    exact ⟨p.2,by simp; exact Prod.ext h.1 rfl⟩
  | p :: r,q :: r',h,i + 1,x,n,e=>by
    simp at e ⊢
    exact VI.get h.2.2 i e
  | [],[],_,i,x,n,e=>by simp at e
  | [],_ :: _,h,_,_,_,_=>h.elim
  | _ :: _,[],h,_,_,_,_=>h.elim
noncomputable def DK (w:World) (es:Array DictEntry) (ns:List (Str × Int)):Prop:=
  ∃ kvs:List (Str × Value),KeysOf (strKind PG w) es ∧ Pairs (strKind PG w) es.toList kvs ∧ (kvs.map (·.1)).Nodup ∧ VI kvs ns
theorem DK.nil (w:World):DK w #[] []:=⟨[],fun _ h=>(Array.not_mem_empty _ h).elim,.nil,List.nodup_nil,trivial⟩
section
variable {w:World} {C:Cf}
theorem DK.dictOf {es:Array DictEntry} {ns:List (Str × Int)} (h:DK w es ns) {s:Shared} {d:Addr} {e:Nat} (ho:s.heap.get? d = some (dob es e)):∃ kvs,s.heap.DictAt (strKind PG w) d kvs e ∧ VI kvs ns:=by
  obtain ⟨kvs,h1,h2,h3,h4⟩:=h
  exact ⟨kvs,⟨dob es e,es,ho,⟨rfl,rfl,rfl⟩,rfl,h1,h2,h3⟩,h4⟩
theorem con_meetsIn {id:String} {args:Args} {B:Builtin} {S:Spec} (entry:entryFor table id = some B) (plain:plainId id = true) (g:MeetsIn PG w (B args) S)
    {d u:Nat} {rd:Led} {N T:Nat} {Z:Type} {q:Z → Pst}
    (h:∀ (A:Around) (s:Shared),A.handled = none → HasL s.heap rd → (rd.map (·.1)).Nodup → s.heap.objs.size = N → s.toks = T → S A (fun r s'=>∃ z,r = (q z).f.res ∧ Aft s s' rd (q z)) s) :
    Con PG w C d u (.builtin id args) rd N T q:=by
  intro A s hz _ _ _ hh nd _ hN hT
  refine codeAny_builtin entry ?_
  rw [Around.under_plainId plain]
  exact g A _ s (h A s hz hh nd hN hT)
theorem plain_dget:plainId "dict.get" = true:=by decide +kernel
theorem plain_dgetitem:plainId "dict.__getitem__" = true:=by decide +kernel
theorem plain_dsetitem:plainId "dict.__setitem__" = true:=by decide +kernel
theorem plain_dit:plainId "dict_keyiterator.__next__" = true:=by decide +kernel
theorem conDGetI {d u:Nat} {a:Addr} {x:Str} {t:Tok} {es:Array DictEntry} {e N T:Nat} {ns:List (Str × Int)} {n:Int} (hk:DK w es ns) (hv:lookI ns x = some n) :
    Con PG w C d u (.builtin "dict.__getitem__" ⟨[.ref a,.str x t],[]⟩) [(a,dob es e)] N T (fun tk:Tok=>⟨.ret (.int n tk),[dob es e],[],N,T + 1⟩):=by
  refine con_meetsIn entry_dict_getitem plain_dgetitem (meets_dict_getitem (strKind _ w) (k:=x) a (by simp [strKind,Value.isStrOf])) ?_
  intro A s hz hh nd hN hT
  obtain ⟨kvs,hm,hvi⟩:=hk.dictOf (hh _ (.head _))
  rcases hvi.look x with ⟨h1,_⟩ | ⟨n',tk,h1,h2⟩
  · rw [h1] at hv; cases hv
  · rw [h1] at hv; cases hv
    subst hN hT
    exact ⟨_,_,hm.dictOf.mapOf,h2,tk,rfl,aft_tok hh⟩
theorem conDGet {d u:Nat} {a:Addr} {x:Str} {t t':Tok} {es:Array DictEntry} {e N T:Nat} {ns:List (Str × Int)} {n:Int} (ha:(a == sysModules) = false) (hk:DK w es ns) (hv:(lookI ns x).getD 0 = n) :
    Con PG w C d u (.builtin "dict.get" ⟨[.ref a,.str x t,.int 0 t'],[]⟩) [(a,dob es e)] N T (fun tk:Tok=>⟨.ret (.int n tk),[dob es e],[],N,T + 1⟩):=by
  refine con_meetsIn F.entry_dict_get plain_dget (meets_dict_get_default (strKind _ w) (k:=x) a (by simp [strKind,Value.isStrOf]) ha (.int 0 t')) ?_
  intro A s hz hh nd hN hT
  obtain ⟨kvs,hm,hvi⟩:=hk.dictOf (hh _ (.head _))
  subst hN hT
  refine ⟨_,hm.dictOf.mapOf,?_⟩
  rcases hvi.look x with ⟨h1,h2⟩ | ⟨n',tk,h1,h2⟩
  · rw [h1] at hv
    rw [h2]
    subst hv
    exact ⟨t',rfl,aft_tok hh⟩
  · rw [h1] at hv
    rw [h2]
    subst hv
    exact ⟨tk,rfl,aft_tok hh⟩
theorem conDSet {d u:Nat} {a:Addr} {x:Str} {t tv:Tok} {es:Array DictEntry} {e N T:Nat} {ns:List (Str × Int)} {n:Int} (hk:DK w es ns) (hl:ns.length ≤ sizeLine) :
    Con PG w C d u (.builtin "dict.__setitem__" ⟨[.ref a,.str x t,.int n tv],[]⟩) [(a,dob es e)] N T
      (fun z:{z:Array DictEntry × Nat // DK w z.1 (storeI ns x n)}=>⟨.ret .none,[dob z.1.1 z.1.2],[],N,T + 1⟩):=by
  refine con_meetsIn entry_dict_setitem plain_dsetitem (meets_dict_setitem_pairs (strKind _ w) (k:=x) a (by simp [strKind,Value.isStrOf]) (.int n tv)) ?_
  intro A s hz hh nd hN hT
  have ho:=hh _ (.head _)
  obtain ⟨kvs,hm,hvi⟩:=hk.dictOf ho
  subst hN hT
  refine ⟨kvs,hm.dictOf,by rw [hvi.len]; exact hl,?_⟩
  intro h' hm' hs'
  obtain ⟨o,es',ep',ho',⟨c1,c2,c3⟩,hd',hk',hp',hn'⟩:=hm'
  have hob:o = dob es' ep':=by
    obtain ⟨oc,od,oda,os⟩:=o
    simp only at c1 c2 c3 hd'
    subst c1 c2 c3 hd'
    rfl
  rw [hob] at ho'
  refine ⟨⟨(es',ep'),_,hk',hp',hn',hvi.stored x n tv⟩,rfl,?_⟩
  exact { gens:=rfl,drawn:=rfl,os:=rfl,toks:=rfl,size:=hs'.1,grow:=Nat.le_refl _
          wr:=fun p hp=>by
            have:p = (a,dob es' ep'):=by simpa using hp
            rw [this]; exact ho'
          nw:=fun p hp=>by cases hp
          nd:=List.nodup_nil
          keep:=fun b y hb n=>(hs'.2 b (fun q=>n (by rw [q]; exact .head _))).trans hb }
theorem conDIt {d u:Nat} {it a:Addr} {x:Str} {es:Array DictEntry} {e N T i:Nat} {j m:Int} {ns:List (Str × Int)} {n:Int} (hk:DK w es ns) (hj:j = i) (hm':m = (es.size:Nat)) (hv:ns[i]? = some (x,n)) :
    Con PG w C d u (.builtin "dict_keyiterator.__next__" ⟨[.ref it],[]⟩) [(it,fds "dict_keyiterator" [.ref a,.int j 0,.int m 0,.int (e:Nat) 0]),(a,dob es e)] N T
      (fun tk:Tok=>⟨.ret (.str x tk),[fds "dict_keyiterator" [.ref a,.int (j + 1) 0,.int m 0,.int (e:Nat) 0],dob es e],[],N,T⟩):=by
  intro A s hz _ _ _ hh nd _ hN hT
  refine codeAny_builtin F.entry_dict_keyiterator_next ?_
  rw [Around.under_plainId plain_dit]
  have ho:=hh _ (.head _)
  have hod:=hh _ (.tail _ (.head _))
  have hT':s.TypeIs (.ref it) "dict_keyiterator":=⟨_,ho,rfl⟩
  obtain ⟨kvs,h1,h2,h3,h4⟩:=hk
  obtain ⟨v,hkv⟩:=h4.get i hv
  have hlt:i < es.size:=by
    have:=h2.length
    have h5:i < kvs.length:=(List.getElem?_eq_some_iff.mp hkv).1
    simp at this; omega
  obtain ⟨tk,htk⟩:∃ tk,es[i].key = .str x tk:=by
    have:=(h2.get? (e:=es[i]) (by simp [hlt]) hkv).1
    obtain ⟨t,ht⟩:=Value.isStrOf_shape this
    exact ⟨t,ht⟩
  show wpAny _ _ (pure (Value.ref it) >>= _) _ _ s
  refine wpAny_bind (wpAny_pure ?_)
  refine wpAny_bind ?_
  refine wpAny_bind ?_
  first | refine wpAny_bind (wpAny_typeNameOfWhole_keyiter hT' (wpAny_pure ?_)) | refine wpAny_bind (wpAny_typeNameOf_keyiter hT' (wpAny_pure ?_))
  refine wpAny_bind (wpAny_fieldsOf ho rfl ?_)
  have hown:Builtin.Dict_items.ownsTuple "dict_keyiterator" = false:=by decide
  simp only [hown,Bool.false_eq_true,if_false]
  show wpAny _ _ (if (Value.ref a == Value.none) = true then _ else _) _ _ s
  rw [if_neg (show ¬ ((Value.ref a == Value.none) = true) from Bool.false_ne_true)]
  refine wpAny_bind (wpAny_pure ?_)
  refine wpAny_bind (wpAny_dictEntries hod rfl ?_)
  rw [if_neg (by rw [hm']; simp)]
  refine wpAny_bind (wpAny_pure ?_)
  refine wpAny_bind (wpAny_dictEpoch hod rfl ?_)
  rw [if_neg (by simp)]
  refine wpAny_pure ?_
  subst hj
  simp only [show ¬ ((i:Int) < 0) from by omega,if_false,Int.toNat_natCast,Array.getElem?_eq_getElem hlt]
  refine wpAny_bind ?_
  first | refine wpAny_bind (wpAny_typeNameOfWhole_keyiter hT' (wpAny_pure ?_)) | refine wpAny_bind (wpAny_typeNameOf_keyiter hT' (wpAny_pure ?_))
  refine wpAny_bind (wpAny_isOneOf_keyiter hT' ?_)
  show wpAny _ _ (setField (.ref it) 1 (rawInt ((i:Int) + 1)) >>= _) _ _ s
  refine wpAny_bind (wpAny_setField ho rfl (by simp) ?_)
  have A1:=aft_updR (l:=it) (o:=fds "dict_keyiterator" [.ref a,.int i 0,.int m 0,.int (e:Nat) 0]) (o':=fds "dict_keyiterator" [.ref a,.int ((i:Int) + 1) 0,.int m 0,.int (e:Nat) 0]) (rd:=[(a,dob es e)]) (f:=Obj.mapFields (·.setIfInBounds 1 (rawInt ((i:Int) + 1)))) (v:=.str x tk) hh nd rfl rfl
  have ho2:=A1.wr (it,_) (.head _)
  refine wpAny_bind (wpAny_holding ?_)
  refine wpAny_bind (wpAny_isOneOf_keyiter (s:={ s with heap:=s.heap.update it (Obj.mapFields (·.setIfInBounds 1 (rawInt ((i:Int) + 1)))) }) ⟨_,ho2,rfl⟩ ?_)
  show wpAny _ _ (pure es[i].key) _ _ _
  rw [htk]
  subst hN hT
  exact wpAny_pure (wpAny_pure ⟨tk,rfl,A1⟩)
end
section
variable {w:World}
theorem dk_make:∀ (kvs:List (Str × Value)),Pairs (strKind PG w) (kvs.map fun p=>(⟨hashStr w p.1,.str p.1 0,p.2⟩:DictEntry)) kvs
  | []=>.nil
  | p :: r=>.cons (by simp [strKind,Value.isStrOf]) rfl (dk_make r)
theorem nodup_stored {kvs:List (Str × Value)} (hn:(kvs.map (·.1)).Nodup) (k:Str) (v:Value):((PySem.stored kvs k v).map (·.1)).Nodup:=by
  unfold PySem.stored
  split
  · rw [keys_map_store]; exact hn
  · rename_i h
    rw [List.map_append,List.nodup_append]
    refine ⟨hn,by simp,?_⟩
    intro a ha c hc
    have:c = k:=by simpa using hc
    rw [this]
    rintro rfl
    obtain ⟨p,hp,rfl⟩:=List.mem_map.mp ha
    exact h (List.any_eq_true.mpr ⟨p,hp,by simp⟩)
theorem dk_step {es:Array DictEntry} {ns:List (Str × Int)} (h:DK w es ns) (k:Str) (n:Int):∃ es',DK w es' (storeI ns k n):=by
  obtain ⟨kvs,_,_,h3,h4⟩:=h
  refine ⟨((PySem.stored kvs k (.int n 0)).map fun p=>(⟨hashStr w p.1,.str p.1 0,p.2⟩:DictEntry)).toArray,PySem.stored kvs k (.int n 0),?_,?_,nodup_stored h3 k _,h4.stored k n 0⟩
  · intro e he
    obtain ⟨p,_,rfl⟩:=List.mem_map.mp (Array.mem_toArray.mp he |> fun x=>(by simpa using x:e ∈ (PySem.stored kvs k (.int n 0)).map fun p=>(⟨hashStr w p.1,.str p.1 0,p.2⟩:DictEntry)))
    exact ⟨p.1,by simp [strKind,Value.isStrOf],rfl⟩
  · exact dk_make _
end
end Mine
end
section
namespace Mine
section
variable (b:Bool) (P:Params) (N T:Nat)
theorem diE (it a:Addr) (es:Array DictEntry) (j m ep:Int) (e:Nat):Sx b P 11 [1,1] [] (.builtin "dict_keyiterator.__next__" ⟨[(.ref it)],[]⟩) (setField (.ref it) 0 .none >>= fun _=>(PySem.Builtin.SmallTypes.stopIteration:Sem PySem.Fin)) [(it,(fds "dict_keyiterator" [(.ref a),(.int j 0),(.int m 0),(.int ep 0)])),(a,(dob es e))] N T (.fin (.error (.ref (N + 1))) [(it,(fds "dict_keyiterator" [.none,(.int j 0),(.int m 0),(.int ep 0)])),(a,(dob es e)),(N,(tup [] 0)),((N + 1),(fds "StopIteration" [(.ref N),.none,.none,.none,(.bool false),.none]))] (N + 2) T):=fx 0 trivial (by kernel_rfl)
theorem so0 (c0 c1 c2:Nat) (ss:List Str) (h0:{z:List Value × Nat // TX z.1 ss}) (t0:Tok):Sg b P 35 [2,2,2,2,2,2,2,4,1,5] [0,0,0,1,0,0,0,0,1] (.builtin "sorted" ⟨[(.str J10 t0)],[]⟩) [] N T (.ask Unit ⟨(.builtin "str.__iter__" ⟨[(.str J10 t0)],[]⟩),0,2,[],(N + 1),T⟩ [] (fun z1=>⟨(.ret (.ref (N + 1))),[],[((N + 1),(fds "str_ascii_iterator" [(.str J10 t0),(.int 0 0)]))],(N + 2),T⟩) fun z1=>.ask {z:List Value × Nat // TX z.1 ss} ⟨(.builtin "list.sort" ⟨[(.ref (N + 4))],[]⟩),0,1,[((N + 4),(lst [] 0))],(N + 5),T⟩ [4] (fun z2=>⟨(.ret .none),[(lst z2.1.1 z2.1.2)],[],(N + 7),T⟩) fun z2=>.fin (.ok (.done (.ret (.ref (N + 4))))) [(N,(lst [] 0)),((N + 1),(fds "str_ascii_iterator" [.none,(.int 0 0)])),((N + 2),(tup [] 0)),((N + 3),(fds "StopIteration" [(.ref (N + 2)),.none,.none,.none,(.bool false),.none])),((N + 4),(lst z2.1.1 z2.1.2))] (N + 7) T):=fx 2 ⟨⟨()⟩,fun z1=>⟨h0⟩,fun z1 z2=>trivial⟩ (by kernel_rfl)
theorem so1 (c0 c1 c2:Nat) (ss:List Str) (h0:{z:List Value × Nat // TX z.1 ss}) (t0:Tok):Sg b P 49 [2,2,2,2,2,2,2,1,1,1,2,2,2,2,2,2,4,1,5] [0,0,0,1,0,0,0,0,0,0,0,1] (.builtin "sorted" ⟨[(.str (sg [c0]) t0)],[]⟩) [] N T (.ask Unit ⟨(.builtin "str.__iter__" ⟨[(.str (sg [c0]) t0)],[]⟩),0,2,[],(N + 1),T⟩ [] (fun z1=>⟨(.ret (.ref (N + 1))),[],[((N + 1),(fds "str_ascii_iterator" [(.str (sg [c0]) t0),(.int 0 0)]))],(N + 2),T⟩) fun z1=>.ask {z:List Value × Nat // TX z.1 ss} ⟨(.builtin "list.sort" ⟨[(.ref (N + 4))],[]⟩),0,1,[((N + 4),(lst [(.str (sg [c0]) T)] 0))],(N + 5),(T + 1)⟩ [4] (fun z2=>⟨(.ret .none),[(lst z2.1.1 z2.1.2)],[],(N + 7),(T + 1)⟩) fun z2=>.fin (.ok (.done (.ret (.ref (N + 4))))) [(N,(lst [(.str (sg [c0]) T)] 1)),((N + 1),(fds "str_ascii_iterator" [.none,(.int 1 0)])),((N + 2),(tup [] 0)),((N + 3),(fds "StopIteration" [(.ref (N + 2)),.none,.none,.none,(.bool false),.none])),((N + 4),(lst z2.1.1 z2.1.2))] (N + 7) (T + 1)):=fx 2 ⟨⟨()⟩,fun z1=>⟨h0⟩,fun z1 z2=>trivial⟩ (by kernel_rfl)
theorem so2 (c0 c1 c2:Nat) (ss:List Str) (h0:{z:List Value × Nat // TX z.1 ss}) (t0:Tok):Sg b P 63 [2,2,2,2,2,2,2,1,1,1,2,2,2,2,2,2,1,1,1,2,2,2,2,2,2,4,1,5] [0,0,0,1,0,0,0,0,0,0,0,0,0,0,1] (.builtin "sorted" ⟨[(.str (sg [c0,c1]) t0)],[]⟩) [] N T (.ask Unit ⟨(.builtin "str.__iter__" ⟨[(.str (sg [c0,c1]) t0)],[]⟩),0,2,[],(N + 1),T⟩ [] (fun z1=>⟨(.ret (.ref (N + 1))),[],[((N + 1),(fds "str_ascii_iterator" [(.str (sg [c0,c1]) t0),(.int 0 0)]))],(N + 2),T⟩) fun z1=>.ask {z:List Value × Nat // TX z.1 ss} ⟨(.builtin "list.sort" ⟨[(.ref (N + 4))],[]⟩),0,1,[((N + 4),(lst [(.str (sg [c0]) T),(.str (sg [c1]) (T + 1))] 0))],(N + 5),(T + 2)⟩ [4] (fun z2=>⟨(.ret .none),[(lst z2.1.1 z2.1.2)],[],(N + 7),(T + 2)⟩) fun z2=>.fin (.ok (.done (.ret (.ref (N + 4))))) [(N,(lst [(.str (sg [c0]) T),(.str (sg [c1]) (T + 1))] 2)),((N + 1),(fds "str_ascii_iterator" [.none,(.int 2 0)])),((N + 2),(tup [] 0)),((N + 3),(fds "StopIteration" [(.ref (N + 2)),.none,.none,.none,(.bool false),.none])),((N + 4),(lst z2.1.1 z2.1.2))] (N + 7) (T + 2)):=fx 2 ⟨⟨()⟩,fun z1=>⟨h0⟩,fun z1 z2=>trivial⟩ (by kernel_rfl)
theorem so3 (c0 c1 c2:Nat) (ss:List Str) (h0:{z:List Value × Nat // TX z.1 ss}) (t0:Tok):Sg b P 77 [2,2,2,2,2,2,2,1,1,1,2,2,2,2,2,2,1,1,1,2,2,2,2,2,2,1,1,1,2,2,2,2,2,2,4,1,5] [0,0,0,1,0,0,0,0,0,0,0,0,0,0,0,0,0,1] (.builtin "sorted" ⟨[(.str (sg [c0,c1,c2]) t0)],[]⟩) [] N T (.ask Unit ⟨(.builtin "str.__iter__" ⟨[(.str (sg [c0,c1,c2]) t0)],[]⟩),0,2,[],(N + 1),T⟩ [] (fun z1=>⟨(.ret (.ref (N + 1))),[],[((N + 1),(fds "str_ascii_iterator" [(.str (sg [c0,c1,c2]) t0),(.int 0 0)]))],(N + 2),T⟩) fun z1=>.ask {z:List Value × Nat // TX z.1 ss} ⟨(.builtin "list.sort" ⟨[(.ref (N + 4))],[]⟩),0,1,[((N + 4),(lst [(.str (sg [c0]) T),(.str (sg [c1]) (T + 1)),(.str (sg [c2]) (T + 2))] 0))],(N + 5),(T + 3)⟩ [4] (fun z2=>⟨(.ret .none),[(lst z2.1.1 z2.1.2)],[],(N + 7),(T + 3)⟩) fun z2=>.fin (.ok (.done (.ret (.ref (N + 4))))) [(N,(lst [(.str (sg [c0]) T),(.str (sg [c1]) (T + 1)),(.str (sg [c2]) (T + 2))] 3)),((N + 1),(fds "str_ascii_iterator" [.none,(.int 3 0)])),((N + 2),(tup [] 0)),((N + 3),(fds "StopIteration" [(.ref (N + 2)),.none,.none,.none,(.bool false),.none])),((N + 4),(lst z2.1.1 z2.1.2))] (N + 7) (T + 3)):=fx 2 ⟨⟨()⟩,fun z1=>⟨h0⟩,fun z1 z2=>trivial⟩ (by kernel_rfl)
end
section
open PyProof.Rows PySem.Spec
noncomputable def insW (x:Str):List Str → List Str
  | []=>[x]
  | y :: r=>if sLt y x then y :: insW x r else x :: y :: r
noncomputable def sortW:List Str → List Str
  | []=>[]
  | x :: r=>insW x (sortW r)
noncomputable def leW (a b:Str):Prop:=a.cps.toList ≤ b.cps.toList
theorem leW_of {a b:Str} (h:sLt b a = false):leW a b:=by
  unfold sLt at h; unfold leW
  simpa using h
theorem leW_of' {a b:Str} (h:sLt a b = true):leW a b:=by
  unfold sLt at h; unfold leW
  exact List.le_of_lt (by simpa using h)
theorem leW_antisymm {a b:Str} (h:leW a b) (h':leW b a):a = b:=by
  have:=List.le_antisymm h h'
  cases a; cases b
  simp only [Str.mk.injEq]
  exact Array.toList_inj.mp this
theorem insW_perm (x:Str):∀ l,(insW x l).Perm (x :: l)
  | []=>.refl _
  | y :: r=>by
    unfold insW
    split
    · exact ((insW_perm x r).cons y).trans (.swap x y r)
    · exact .refl _
theorem sortW_perm:∀ l,(sortW l).Perm l
  | []=>.refl _
  | x :: r=>(insW_perm x _).trans ((sortW_perm r).cons x)
theorem insW_sorted (x:Str):∀ l,l.Pairwise leW → (insW x l).Pairwise leW
  | [],_=>by simp [insW]
  | y :: r,h=>by
    obtain ⟨h1,h2⟩:=List.pairwise_cons.mp h
    unfold insW
    split
    · rename_i c
      refine List.pairwise_cons.mpr ⟨?_,insW_sorted x r h2⟩
      intro z hz
      rcases List.mem_cons.mp ((insW_perm x r).mem_iff.mp hz) with rfl | q
      · exact leW_of' c
      · exact h1 z q
    · rename_i c
      have c':leW x y:=leW_of (by simpa using c)
      refine List.pairwise_cons.mpr ⟨?_,h⟩
      intro z hz
      rcases List.mem_cons.mp hz with rfl | q
      · exact c'
      · exact List.le_trans c' (h1 z q)
theorem sortW_sorted:∀ l,(sortW l).Pairwise leW
  | []=>.nil
  | x :: r=>insW_sorted x _ (sortW_sorted r)
theorem risingS_pairwise:∀ (l:List Str) (p:Str),risingS p l = true → (p :: l).Pairwise leW
  | [],p,_=>by simp
  | x :: r,p,h=>by
    have h':(!ltCps x.cps.toList p.cps.toList && risingS x r) = true:=h
    rw [Bool.and_eq_true] at h'
    have ih:=risingS_pairwise r x h'.2
    have c:leW p x:=leW_of (by
      have:=h'.1
      rw [ltCps_eq] at this
      simpa [sLt] using this)
    refine List.pairwise_cons.mpr ⟨?_,ih⟩
    intro z hz
    rcases List.mem_cons.mp hz with rfl | q
    · exact c
    · exact List.le_trans c ((List.pairwise_cons.mp ih).1 z q)
theorem eq_sortW {ss ss':List Str} (hp:ss'.Perm ss) (hs:sortedS ss' = true):ss' = sortW ss:=by
  have h:ss'.Pairwise leW:=by
    cases ss' with
    | nil=>exact .nil
    | cons x r=>exact risingS_pairwise r x hs
  exact List.Perm.eq_of_pairwise (fun _ _ _ _ a b=>leW_antisymm a b) h (sortW_sorted ss) (hp.trans (sortW_perm ss).symm)
theorem TX.strsAre {vs:List Value} {xs:List Str} (h:TX vs xs):StrsAre vs xs:=by
  obtain ⟨ps,h1,h2⟩:=h
  rw [h1,← h2]
  exact strsAre_of_values ps
theorem tx_of_strsAre {vs:List Value} {xs:List Str} (h:StrsAre vs xs):TX vs xs:=by
  obtain ⟨l,h1,h2⟩:=strsAre_values h
  exact ⟨l,h1,h2⟩
section
variable {prog:Program} {w:World} {C:Cf}
theorem plain_sort:plainId "list.sort" = true:=by decide +kernel
theorem conSort {d u:Nat} {l:Addr} {vs:List Value} {xs ys:List Str} {e N T:Nat} (hx:TX vs xs) (hl:xs.length < 64) (hy:sortW xs = ys) :
    Con prog w C d u (.builtin "list.sort" ⟨[.ref l],[]⟩) [(l,lst vs e)] N T (fun z:{z:List Value × Nat // TX z.1 ys}=>⟨.ret .none,[lst z.1.1 z.1.2],[],N + 2,T⟩):=by
  intro A s hz _ _ _ hh nd _ hN hT
  refine codeAny_builtin PyProof.Rows.entry_list_sort ?_
  rw [Around.under_plainId plain_sort]
  have ho:=hh _ (.head _)
  have hS:=hx.strsAre
  have h64:vs.length < 64:=by rw [hx.len]; exact hl
  refine list_sort_treeK strKind_oneLt (n:=e) ho hS.keysOf (fun v₁ v₂ rest h=>keyKind_strs (by rw [← h]; exact hS)) h64 fun st' hp hs=>?_
  obtain ⟨ss',h1,h2,h3⟩:=sorted_out_str hS hp hs
  have hsort:ss' = ys:=(eq_sortW h2 h3).trans hy
  obtain ⟨e',he'⟩:=sortedHeap_at (vs:=vs) (n:=e) (out:=(arrOf st').map (·.2)) ho
  subst hN hT
  have hsz:(sortedHeap s.heap l vs ((arrOf st').map (·.2))).objs.size = s.heap.objs.size + 2:=by
    unfold sortedHeap
    simp [Heap.size_update]
  refine ⟨⟨(((arrOf st').map (·.2)).toList,e'),by rw [← hsort]; exact tx_of_strsAre h1⟩,rfl,?_⟩
  exact { gens:=rfl,drawn:=rfl,os:=rfl,toks:=rfl,size:=hsz,grow:=Nat.le_add_right _ _
          wr:=fun p hp=>by
            have:p = (l,lst ((arrOf st').map (·.2)).toList e'):=by simpa using hp
            rw [this]; exact he'
          nw:=fun p hp=>by cases hp
          nd:=List.nodup_nil
          keep:=fun b o hb n=>by
            have hb2:b ≠ l:=fun q=>n (by rw [q]; exact .head _)
            rw [sortedHeap_old hb2 (Heap.lt_size hb)]; exact hb }
end
end
end Mine
end
section
namespace Mine
section
open PyProof.Rows PySem.Builtin PySem.Builtin.Str
noncomputable def joinS (xs:List Str):Str:=glued (sg []) xs
noncomputable def repl1 (x y:Str):Str:=if ((occurrences x y 0 x.length 1).isEmpty || y.length == 0) = true then x else glued (sg []) (partsBetween x (occurrences x y 0 x.length 1) y.length)
noncomputable def catS (x y:Str):Str:=⟨⟨x.cps.toList++y.cps.toList⟩⟩
section
variable {prog:Program} {w:World} {C:Cf}
theorem aft_push1 {s:Shared} {o:Obj} {v:Value} (hf:o.isFreed = false):Aft s { s with heap:=s.heap.push o } [] ⟨.ret v,[],[(s.heap.objs.size,o)],s.heap.objs.size + 1,s.toks⟩ where
  gens:=rfl
  drawn:=rfl
  os:=rfl
  toks:=rfl
  size:=Heap.size_push ..
  grow:=Nat.le_add_right _ _
  wr:=fun p hp=>by cases hp
  nw:=fun p hp=>by
    have:p = (s.heap.objs.size,o):=by simpa using hp
    rw [this]
    exact ⟨Heap.get?_push_size _ hf,Nat.le_refl _⟩
  nd:=by simp
  keep:=fun b x hb _=>Heap.get?_push_of_some _ hb
theorem plain_siter:plainId "str.__iter__" = true:=by decide +kernel
theorem conSIter {d u N T:Nat} {x:PySem.Str} {t:Tok} (hx:x.cps.all (· < 128) = true) :
    Con prog w C d u (.builtin "str.__iter__" ⟨[.str x t],[]⟩) [] N T (fun _:Unit=>⟨.ret (.ref N),[],[(N,fds "str_ascii_iterator" [.str x t,.int 0 0])],N + 1,T⟩):=by
  intro A s hz _ _ _ hh nd _ hN hT
  refine codeAny_builtin F.entry_str_iter ?_
  rw [Around.under_plainId plain_siter]
  show wpAny _ _ (newFields (if (true && x.cps.all (· < 128)) = true then "str_ascii_iterator" else "str_iterator") [.str x t,rawInt 0] >>= _) _ _ s
  rw [hx]
  refine wpAny_bind (wpAny_newObj_type (wpAny_pure ⟨(),?_,?_⟩))
  · rw [hN]; rfl
  · subst hN hT
    exact aft_push1 rfl
theorem plain_join:plainId "str.join" = true:=by decide +kernel
theorem typeOf_list_ref {s:Shared} {l:Addr} {vs:List Value} {e:Nat} (ho:s.heap.get? l = some (lst vs e)):s.TypeIs (.ref l) "list":=⟨_,ho,rfl⟩
theorem conJoin {d u N T e:Nat} {l:Addr} {t:Tok} {vs:List Value} {xs:List PySem.Str} {r:PySem.Str} (hx:TX vs xs) (hr:joinS xs = r) (hl:r.length ≤ sizeLine) (hf:tooLong (xs.toArray.foldl (fun n s=>n + s.length + 0) 0) = false) :
    Con prog w C d u (.builtin "str.join" ⟨[.str (sg []) t,.ref l],[]⟩) [(l,lst vs e)] N T (fun z:{z:Tok × Nat // T ≤ z.2}=>⟨.ret (.str r z.1.1),[lst vs e],[],N,z.1.2⟩):=by
  intro A s hz _ _ _ hh nd _ hN hT
  refine codeAny_builtin F.entry_str_join ?_
  rw [Around.under_plainId plain_join]
  obtain ⟨other,ho⟩:=join_tree (sg []) t l
  rw [ho]
  have hol:=hh _ (.head _)
  obtain ⟨ps,rfl,rfl⟩:=hx
  refine wpAny_bind (wpAny_typeOf (typeOf_list_ref hol) ?_)
  rw [if_pos (by decide)]
  refine wpAny_bind (wpAny_seqItems hol rfl ?_)
  subst hN hT
  have g:=gives_joinTail (sg []) ps hf
  have key:=g.meets prog w A (fun r' s'=>∃ z:{z:Tok × Nat // s.toks ≤ z.2},r' = .ok (.ret (.str r z.1.1)) ∧ Aft s s' [(l,lst (ps.map fun p=>.str p.1 p.2) e)] ⟨.ret (.str r z.1.1),[lst (ps.map fun p=>.str p.1 p.2) e],[],s.heap.objs.size,z.1.2⟩) s ?_
  · exact key
  · match ps,hr with
    | [],hr=>
      refine ⟨?_,⟨(s.toks,s.toks + 1),Nat.le_succ _⟩,?_,aft_tok (k:=1) hh⟩
      · rw [← hr] at hl; exact hl
      · rw [← hr]; rfl
    | [p],hr=>
      have:r = p.1:=by rw [← hr]; rfl
      refine ⟨⟨(p.2,s.toks),Nat.le_refl _⟩,?_,aft_tok (k:=0) hh⟩
      rw [this]
    | p :: q :: rr,hr=>
      refine ⟨?_,⟨(s.toks,s.toks + 1),Nat.le_succ _⟩,?_,aft_tok (k:=1) hh⟩
      · rw [← hr] at hl; exact hl
      · rw [← hr]; rfl
theorem conRepl1 {d u N T:Nat} {x y r:PySem.Str} {t k l t4:Tok} (hr:repl1 x y = r) (hx:x.length ≤ 1000) (hl:r.length ≤ sizeLine) (h0:y.length = 0 ∨ (@Ne Nat k 0 ∧ @Ne Nat l 0 ∧ @Ne Nat k l)) :
    Con prog w C d u (.builtin "str.replace" ⟨[.str x t,.str y k,.str (sg []) l,.int 1 t4],[]⟩) [] N T (fun z:{z:Tok × Nat // T ≤ z.2}=>⟨.ret (.str r z.1.1),[],[],N,z.1.2⟩):=by
  intro A s hz _ _ _ hh nd _ hN hT
  refine codeAny_builtin F.entry_str_replace ?_
  rw [Around.under_plainId plain_replace]
  subst hN hT
  show wpAny _ _ (if ((occurrences x y 0 x.length 1).isEmpty || (y.length == 0 && true)) = true then (do rule "str.replace.nothing"; ret (.str x t)) else
          (do let same ← isSame (.str y k) (.str (sg []) l)
              if same = true then (do rule "str.replace.old-is-new"; ret (.str x t)) else
              if tooLong (x.length + (occurrences x y 0 x.length 1).length * (sg []).length) = true then unsupported "str.replace:memory" else
              retStr (glued (sg []) (partsBetween x (occurrences x y 0 x.length 1) y.length)))) _ _ s
  rw [Bool.and_true]
  unfold repl1 at hr
  cases hc:((occurrences x y 0 x.length 1).isEmpty || y.length == 0) with
  | true=>
    rw [hc] at hr
    have:x = r:=hr
    subst this
    rw [if_pos rfl]
    exact wpAny_bind (wpAny_rule (wpAny_pure ⟨⟨(t,s.toks),Nat.le_refl _⟩,rfl,aft_tok (k:=0) hh⟩))
  | false=>
    rw [hc] at hr
    rw [if_neg Bool.false_ne_true] at hr ⊢
    have hy:(y.length == 0) = false:=by
      rw [Bool.or_eq_false_iff] at hc
      exact hc.2
    have h0':=h0.resolve_left (by simpa using hy)
    have hyz:(y == sg []) = false:=by
      refine beq_eq_false_iff_ne.mpr ?_
      rintro rfl
      simp [PySem.Str.length] at hy
    rw [isSame_str_other y (sg []) k l (by simp [h0'.1,h0'.2.1]) (by simp [h0'.2.2]) hyz]
    refine wpAny_bind (wpAny_pure ?_)
    rw [if_neg Bool.false_ne_true]
    have ht:tooLong (x.length + (occurrences x y 0 x.length 1).length * (sg []).length) = false:=by
      have:(sg []).length = 0:=rfl
      rw [this]
      unfold tooLong sizeLine
      exact decide_eq_false (by omega)
    rw [ht,if_neg Bool.false_ne_true,hr]
    show wpAny _ _ (mkStr r >>= _) _ _ _
    exact wpAny_bind (wpAny_mkStr (wpAny_pure ⟨⟨(s.toks,s.toks + 1),Nat.le_succ _⟩,rfl,aft_tok (k:=1) hh⟩) hl)
theorem plain_sadd:plainId "str.__add__" = true:=by decide +kernel
theorem conAddS {d u N T:Nat} {x y r:PySem.Str} {t k:Tok} (hr:catS x y = r) (hl:r.length ≤ sizeLine) :
    Con prog w C d u (.builtin "str.__add__" ⟨[.str x t,.str y k],[]⟩) [] N T (fun z:{z:Tok × Nat // T ≤ z.2}=>⟨.ret (.str r z.1.1),[],[],N,z.1.2⟩):=by
  refine con_meets F.entry_str_add plain_sadd (gives_str_add x y t k).meets ?_
  intro A s hz hh nd hN hT
  subst hN hT
  have e0:∀ q:PySem.Str,(q.length == 0) = true → q.cps.toList = []:=fun q h=>by
    have:q.cps.size = 0:=by simpa [PySem.Str.length] using h
    simpa using this
  cases h1:x.length == 0 with
  | true=>
    have:y = r:=by
      rw [← hr]; unfold catS; rw [e0 x h1]; rfl
    subst this
    exact ⟨⟨(k,s.toks),Nat.le_refl _⟩,rfl,aft_tok (k:=0) hh⟩
  | false=>
    cases h2:y.length == 0 with
    | true=>
      have:x = r:=by
        rw [← hr]; unfold catS; rw [e0 y h2,List.append_nil]
      subst this
      exact ⟨⟨(t,s.toks),Nat.le_refl _⟩,rfl,aft_tok (k:=0) hh⟩
    | false=>
      have:x++y = r:=by
        rw [← hr]
        show (⟨x.cps++y.cps⟩:PySem.Str) = _
        unfold catS
        simp only [PySem.Str.mk.injEq]
        exact Array.toList_inj.mp (by simp)
      refine ⟨?_,⟨(s.toks,s.toks + 1),Nat.le_succ _⟩,?_,aft_tok (k:=1) hh⟩
      · rw [this]; exact hl
      · rw [this]; rfl
end
end
end Mine
end
section
namespace Mine
section
open PySem.Builtin PySem.Builtin.Str
noncomputable def chs (x:PySem.Str):List PySem.Str:=x.cps.toList.map fun c=>sg [c]
noncomputable def keyS (tops tp here:PySem.Str):PySem.Str:=joinS (sortW (chs (catS (repl1 tops tp) here)))
noncomputable def gtI (v w:Int):Int:=if w > v then w else v
noncomputable def stepI (v:Int) (tops here:PySem.Str) (ns:List (PySem.Str × Int)) (tp:PySem.Str):List (PySem.Str × Int):=
  storeI ns (keyS tops tp here) (gtI (v + (if sLt here tp then 1 else 0)) ((lookI ns (keyS tops tp here)).getD 0))
noncomputable def okI (tops here:PySem.Str) (ns:List (PySem.Str × Int)) (tp:PySem.Str):Bool:=
  decide (tops.length ≤ 1000) && decide ((repl1 tops tp).length ≤ 1000) && decide ((catS (repl1 tops tp) here).length ≤ 3) && (catS (repl1 tops tp) here).cps.all (· < 128) &&
    decide ((keyS tops tp here).length ≤ 1000) && !tooLong ((sortW (chs (catS (repl1 tops tp) here))).toArray.foldl (fun n s=>n + s.length + 0) 0) && decide (ns.length ≤ 1000)
noncomputable def innF (v:Int) (tops here:PySem.Str):List PySem.Str → List (PySem.Str × Int) → List (PySem.Str × Int)
  | [],ns=>ns
  | tp :: r,ns=>innF v tops here r (stepI v tops here ns tp)
noncomputable def innOk (v:Int) (tops here:PySem.Str):List PySem.Str → List (PySem.Str × Int) → Bool
  | [],_=>true
  | tp :: r,ns=>okI tops here ns tp && innOk v tops here r (stepI v tops here ns tp)
noncomputable def topsL (room:Nat) (tops:PySem.Str):List PySem.Str:=chs tops++List.replicate (room - tops.cps.toList.length) (sg [])
noncomputable def midF (room:Nat) (here:PySem.Str):List (PySem.Str × Int) → List (PySem.Str × Int) → List (PySem.Str × Int)
  | [],ns=>ns
  | p :: r,ns=>midF room here r (innF p.2 p.1 here (topsL room p.1) ns)
noncomputable def midOk (room:Nat) (here:PySem.Str):List (PySem.Str × Int) → List (PySem.Str × Int) → Bool
  | [],_=>true
  | p :: r,ns=>decide (p.1.cps.toList.length ≤ room) && p.1.cps.all (· < 128) && innOk p.2 p.1 here (topsL room p.1) ns && midOk room here r (innF p.2 p.1 here (topsL room p.1) ns)
noncomputable def outF (room:Nat):List PySem.Str → List (PySem.Str × Int) → List (PySem.Str × Int)
  | [],best=>best
  | h :: r,best=>outF room r (midF room h best [])
noncomputable def outOk (room:Nat):List PySem.Str → List (PySem.Str × Int) → Bool
  | [],best=>decide (0 < best.length) && decide (best.length ≤ 1000) && best.all (fun p=>decide (p.1.length ≤ 1000))
  | h :: r,best=>midOk room h best [] && outOk room r (midF room h best [])
noncomputable def mxF:List Int → Int → Int
  | [],m=>m
  | x :: r,m=>mxF r (gtI m x)
noncomputable def valF (p:PySem.Str × Int):Int:=p.2 + ((p.1.length:Nat):Int)
noncomputable def mostF (room:Nat) (strip:List PySem.Str):Int:=match (outF room strip [(sg [],0)]).map valF with
  | []=>0
  | x :: r=>mxF r x
end
structure SZ where
  l:Addr
  vs:List Value
  e:Nat
  N:Nat
  T:Nat
theorem tx_any (xs:List Str):TX (xs.map fun x=>.str x 0) xs:=⟨xs.map fun x=>(x,0),by simp,by simp [Function.comp_def]⟩
noncomputable def frM2 (P:Params) (ls:Addr) (rm:Int) (k:Nat → Tok):Obj:=frm P [((sg [115,116,114,105,112]),k 0,(.ref ls)),((sg [114,111,111,109]),k 1,(.int rm (k 11)))] 2
noncomputable def frM4 (P:Params) (ls:Addr) (rm:Int) (k:Nat → Tok) (h:Str) (g:Addr):Obj:=frm P [((sg [115,116,114,105,112]),k 0,(.ref ls)),((sg [114,111,111,109]),k 1,(.int rm (k 11))),((sg [104,101,114,101]),k 2,(.str h (k 12))),((sg [103,114,111,119,110]),k 3,(.ref g))] 4
noncomputable def frM5 (P:Params) (ls:Addr) (rm:Int) (k:Nat → Tok) (h:Str) (g:Addr) (tp:Str):Obj:=frm P [((sg [115,116,114,105,112]),k 0,(.ref ls)),((sg [114,111,111,109]),k 1,(.int rm (k 11))),((sg [104,101,114,101]),k 2,(.str h (k 12))),((sg [103,114,111,119,110]),k 3,(.ref g)),((sg [116,111,112,115]),k 4,(.str tp (k 14)))] 5
noncomputable def frM8 (P:Params) (ls:Addr) (rm:Int) (k:Nat → Tok) (h:Str) (g:Addr) (tp y1 y2:Str) (f:Int):Obj:=frm P [((sg [115,116,114,105,112]),k 0,(.ref ls)),((sg [114,111,111,109]),k 1,(.int rm (k 11))),((sg [104,101,114,101]),k 2,(.str h (k 12))),((sg [103,114,111,119,110]),k 3,(.ref g)),((sg [116,111,112,115]),k 4,(.str tp (k 14))),((sg [116,111,112]),k 5,(.str y1 (k 15))),((sg [107,101,121]),k 6,(.str y2 (k 16))),((sg [102,97,108,108,115]),k 7,(.int f (k 17)))] 8
noncomputable def forB (b:List Stmt) (k:Nat):Expr × List Stmt:=match b[k]? with
  | some (.For t _ b' _ _)=>(t,b')
  | _=>(default,[])
noncomputable def flP1:Expr × List Stmt:=flE st142 1
noncomputable def flP2:Expr × List Stmt:=forB flP1.2 1
noncomputable def flP3:Expr × List Stmt:=forB flP2.2 0
noncomputable def fl142O (aF aC it:Addr):Code:=.forLoop flP1.1 (.ref it) flP1.2 [] (env142 aF aC)
noncomputable def fl142M (aF aC it:Addr):Code:=.forLoop flP2.1 (.ref it) flP2.2 [] (env142 aF aC)
noncomputable def fl142I (aF aC it:Addr):Code:=.forLoop flP3.1 (.ref it) flP3.2 [] (env142 aF aC)
noncomputable def bl142 (aF aC:Addr):Code:=.block [] (env142 aF aC)
noncomputable def compScope:Expr → Scope
  | .ListComp _ _ s _=>s
  | _=>default
noncomputable def cenv (e:Expr) (env:Env) (L:Addr):Env:=
  { scope:={ compScope e with names:=(compScope e).names.map fun (n,k)=>if k == .free && env.scope.kind == .function && env.kindOf n == some .cell then (n,.cell) else (n,k) },locals:=L,globals:=3,cells:=env.cells,qual:=env.qual,func:=none,code:=env.code,frame:=env.frame,builtins:=0 }
noncomputable def retE:Stmt → Expr
  | .Return (some e) _=>e
  | _=>default
noncomputable def argE:Expr → Expr
  | .Call _ args _ _=>args.headD default
  | _=>default
noncomputable def cmE:Expr:=argE (retE ((bodyOf st142).getD 2 (.Pass ⟨0,0,0,0⟩)))
noncomputable def cl142 (aF aC lo it acc:Addr):Code:=.compLoop cmE 0 (.ref it) (.ref acc) (cenv cmE (env142 aF aC) lo)
noncomputable def cs142 (aF aC lo it acc:Addr):Code:=.compStart cmE 0 (.ref it) (.ref acc) (cenv cmE (env142 aF aC) lo)
structure MO where
  bd:Addr
  es:Array DictEntry
  e:Nat
  i:Int
  k:Nat → Tok
  x0:Str
  gd:Addr
  x1:Str
  y1:Str
  y2:Str
  f:Int
  N:Nat
  T:Nat
structure CO where
  j:Int
  vs:List Value
  ev:Nat
  kk:Tok
  x:Str
  t:Tok
  N:Nat
  T:Nat
noncomputable def IX (vs:List Value) (ns:List Int):Prop:=∃ ps:List (Int × Tok),vs = ps.map (fun p=>.int p.1 p.2) ∧ ps.map (·.1) = ns
end Mine
end
section
namespace Mine
section
variable (b:Bool) (P:Params) (N T:Nat)
theorem mitt (aF aC ls bd gd it l:Addr) (k:Nat → Tok) (x0 x1 x2 x3 x4 x5 x6 x7:Str) (t10:Tok) (i rm v w f f0:Int) (vs:List Value) (ys:List Str) (es es1:Array DictEntry) (e e1 e2:Nat) (GD:Array DictEntry → Prop) (gd0:{z:Array DictEntry × Nat // GD z.1}):Sg b P 194 [5,5,1,1,0,0,1,1,1,1,1,2,1,3,3,3,3,1,1,1,1,0,0,1,1,4,4,4,4,1,4,8,8,8,9,10,9,9,9,9,8,9,9,10,10,10,10,9,9,9,9,8,9,9,10,10,10,10,9,9,9,9,8,9,9,12,10,10,10,1,1,4,4,4] [0,1,0,1,0,1,0,1,0,1,0,1,0,1,0,1,0,1,0,0,0,0,0,0,0,0,0,0,0,1,0,0,0,0,1] (fl142I aF aC it) [(aF,(frm P [(J3,(k 0),(.ref ls)),(J0,(k 1),(.int rm (k 11))),(J2,(k 2),(.str x0 (k 12))),(J9,(k 3),(.ref gd)),(J13,(k 4),(.str x1 (k 14))),(J16,(k 5),(.str x6 (k 15))),(J11,(k 6),(.str x7 (k 16))),(J1,(k 7),(.int f0 (k 17)))] 8)),(aC,(cel (some (.ref bd)))),(bd,(dob es e)),(gd,(dob es1 e1)),(it,(LI [(.ref l),(.int i 0)])),(l,(lst vs e2))] N T (.ask Unit ⟨(.builtin "list_iterator.__next__" ⟨[(.ref it)],[]⟩),0,0,[(it,(LI [(.ref l),(.int i 0)])),(l,(lst vs e2))],N,T⟩ [4,5] (fun z1=>⟨(.ret (.str x2 t10)),[(LI [(.ref l),(.int (i + 1) 0)]),(lst vs e2)],[],N,T⟩) fun z1=>.ask {z:Tok × Nat // @Nat.le ((T + 4)) z.2} ⟨(.builtin "str.replace" ⟨[(.str x1 (k 14)),(.str x2 t10),(.str J10 (T + 2)),(.int 1 (T + 3))],[]⟩),0,0,[],N,(T + 4)⟩ [] (fun z2=>⟨(.ret (.str x3 z2.1.1)),[],[],N,z2.1.2⟩) fun z2=>.ask {z:Tok × Nat // @Nat.le (z2.1.2) z.2} ⟨(.builtin "str.__add__" ⟨[(.str x3 z2.1.1),(.str x0 (k 12))],[]⟩),0,0,[],N,z2.1.2⟩ [] (fun z3=>⟨(.ret (.str x4 z3.1.1)),[],[],N,z3.1.2⟩) fun z3=>.ask {z:SZ // @Nat.le (z3.1.2) z.T ∧ TX z.vs ys} ⟨(.builtin "sorted" ⟨[(.str x4 z3.1.1)],[]⟩),0,0,[],N,z3.1.2⟩ [] (fun z4=>⟨(.ret (.ref z4.1.l)),[],[(z4.1.l,(lst z4.1.vs z4.1.e))],z4.1.N,z4.1.T⟩) fun z4=>.ask {z:Tok × Nat // @Nat.le (z4.1.T) z.2} ⟨(.builtin "str.join" ⟨[(.str J10 (T + 1)),(.ref z4.1.l)],[]⟩),0,0,[(z4.1.l,(lst z4.1.vs z4.1.e))],z4.1.N,z4.1.T⟩ [6] (fun z5=>⟨(.ret (.str x5 z5.1.1)),[(lst z4.1.vs z4.1.e)],[],z4.1.N,z5.1.2⟩) fun z5=>.ask Tok ⟨(.builtin "dict.__getitem__" ⟨[(.ref bd),(.str x1 (k 14))],[]⟩),0,0,[(bd,(dob es e))],z4.1.N,(z5.1.2 + 1)⟩ [2] (fun z6=>⟨(.ret (.int v z6)),[(dob es e)],[],z4.1.N,(z5.1.2 + 2)⟩) fun z6=>.ask Unit ⟨(.builtin "str.__gt__" ⟨[(.str x2 t10),(.str x0 (k 12))],[]⟩),0,0,[],z4.1.N,(z5.1.2 + 2)⟩ [] (fun z7=>⟨(.ret (.bool true)),[],[],z4.1.N,(z5.1.2 + 2)⟩) fun z7=>.ask Unit ⟨(.builtin "int.__add__" ⟨[(.int v z6),(.int 1 (z5.1.2 + 2))],[]⟩),0,0,[],z4.1.N,(z5.1.2 + 3)⟩ [] (fun z8=>⟨(.ret (.int f (z5.1.2 + 3))),[],[],z4.1.N,(z5.1.2 + 4)⟩) fun z8=>.ask Tok ⟨(.builtin "dict.get" ⟨[(.ref gd),(.str x5 z5.1.1),(.int 0 (z5.1.2 + 5))],[]⟩),0,0,[(gd,(dob es1 e1))],z4.1.N,(z5.1.2 + 6)⟩ [3] (fun z9=>⟨(.ret (.int w z9)),[(dob es1 e1)],[],z4.1.N,(z5.1.2 + 7)⟩) fun z9=>.ask Unit ⟨(.builtin "int.__gt__" ⟨[(.int w z9),(.int f (z5.1.2 + 3))],[]⟩),0,1,[],(z4.1.N + 3),(z5.1.2 + 7)⟩ [] (fun z10=>⟨(.ret (.bool true)),[],[],(z4.1.N + 3),(z5.1.2 + 7)⟩) fun z10=>.ask {z:Array DictEntry × Nat // GD z.1} ⟨(.builtin "dict.__setitem__" ⟨[(.ref gd),(.str x5 z5.1.1),(.int w z9)],[]⟩),0,0,[(gd,(dob es1 e1))],(z4.1.N + 5),(z5.1.2 + 7)⟩ [3] (fun z11=>⟨(.ret .none),[(dob z11.1.1 z11.1.2)],[],(z4.1.N + 5),(z5.1.2 + 8)⟩) fun z11=>.fin (.ok (.again (fl142I aF aC it))) [(aF,(frm P [(J3,(k 0),(.ref ls)),(J0,(k 1),(.int rm (k 11))),(J2,(k 2),(.str x0 (k 12))),(J9,(k 3),(.ref gd)),(J13,(k 4),(.str x1 (k 14))),(J16,(k 5),(.str x2 t10)),(J11,(k 6),(.str x5 z5.1.1)),(J1,(k 7),(.int f (z5.1.2 + 3)))] 8)),(aC,(cel (some (.ref bd)))),(bd,(dob es e)),(gd,(dob z11.1.1 z11.1.2)),(it,(LI [(.ref l),(.int (i + 1) 0)])),(l,(lst vs e2)),(z4.1.l,(lst z4.1.vs z4.1.e)),(z4.1.N,(tup [(.int f (z5.1.2 + 3)),(.int w z9)] 0)),((z4.1.N + 1),(fds "tuple_iterator" [.none,(.int 2 0)])),((z4.1.N + 2),(lst [] 2)),((z4.1.N + 3),(tup [] 0)),((z4.1.N + 4),(fds "StopIteration" [(.ref (z4.1.N + 3)),.none,.none,.none,(.bool false),.none]))] (z4.1.N + 5) (z5.1.2 + 8)):=fx 11 ⟨⟨()⟩,fun z1=>⟨⟨(0,(T + 4)),Nat.le_refl _⟩⟩,fun z1 z2=>⟨⟨(0,z2.1.2),Nat.le_refl _⟩⟩,fun z1 z2 z3=>⟨⟨⟨0,_,0,0,z3.1.2⟩,Nat.le_refl _,tx_any ys⟩⟩,fun z1 z2 z3 z4=>⟨⟨(0,z4.1.T),Nat.le_refl _⟩⟩,fun z1 z2 z3 z4 z5=>⟨0⟩,fun z1 z2 z3 z4 z5 z6=>⟨()⟩,fun z1 z2 z3 z4 z5 z6 z7=>⟨()⟩,fun z1 z2 z3 z4 z5 z6 z7 z8=>⟨0⟩,fun z1 z2 z3 z4 z5 z6 z7 z8 z9=>⟨()⟩,fun z1 z2 z3 z4 z5 z6 z7 z8 z9 z10=>⟨gd0⟩,fun z1 z2 z3 z4 z5 z6 z7 z8 z9 z10 z11=>trivial⟩ (by kernel_rfl)
theorem mjtt (aF aC ls bd gd it l:Addr) (k:Nat → Tok) (x0 x1 x2 x3 x4 x5 x6 x7:Str) (t10:Tok) (i rm v w f f0:Int) (vs:List Value) (ys:List Str) (es es1:Array DictEntry) (e e1 e2:Nat) (GD:Array DictEntry → Prop) (gd0:{z:Array DictEntry × Nat // GD z.1}):Sg b P 194 [5,5,1,1,0,0,1,1,1,1,1,2,1,3,3,3,3,1,1,1,1,0,0,1,1,4,4,4,4,1,4,8,8,8,9,10,9,9,9,9,8,9,9,10,10,10,10,9,9,9,9,8,9,9,10,10,10,10,9,9,9,9,8,9,9,12,10,10,10,1,1,4,4,4] [0,1,0,1,0,1,0,1,0,1,0,1,0,1,0,1,0,1,0,0,0,0,0,0,0,0,0,0,0,1,0,0,0,0,1] (fl142I aF aC it) [(aF,(frm P [(J3,(k 0),(.ref ls)),(J0,(k 1),(.int rm (k 11))),(J2,(k 2),(.str x0 (k 12))),(J9,(k 3),(.ref gd)),(J13,(k 4),(.str x1 (k 14)))] 5)),(aC,(cel (some (.ref bd)))),(bd,(dob es e)),(gd,(dob es1 e1)),(it,(LI [(.ref l),(.int i 0)])),(l,(lst vs e2))] N T (.ask Unit ⟨(.builtin "list_iterator.__next__" ⟨[(.ref it)],[]⟩),0,0,[(it,(LI [(.ref l),(.int i 0)])),(l,(lst vs e2))],N,T⟩ [4,5] (fun z1=>⟨(.ret (.str x2 t10)),[(LI [(.ref l),(.int (i + 1) 0)]),(lst vs e2)],[],N,T⟩) fun z1=>.ask {z:Tok × Nat // @Nat.le ((T + 4)) z.2} ⟨(.builtin "str.replace" ⟨[(.str x1 (k 14)),(.str x2 t10),(.str J10 (T + 2)),(.int 1 (T + 3))],[]⟩),0,0,[],N,(T + 4)⟩ [] (fun z2=>⟨(.ret (.str x3 z2.1.1)),[],[],N,z2.1.2⟩) fun z2=>.ask {z:Tok × Nat // @Nat.le (z2.1.2) z.2} ⟨(.builtin "str.__add__" ⟨[(.str x3 z2.1.1),(.str x0 (k 12))],[]⟩),0,0,[],N,z2.1.2⟩ [] (fun z3=>⟨(.ret (.str x4 z3.1.1)),[],[],N,z3.1.2⟩) fun z3=>.ask {z:SZ // @Nat.le (z3.1.2) z.T ∧ TX z.vs ys} ⟨(.builtin "sorted" ⟨[(.str x4 z3.1.1)],[]⟩),0,0,[],N,z3.1.2⟩ [] (fun z4=>⟨(.ret (.ref z4.1.l)),[],[(z4.1.l,(lst z4.1.vs z4.1.e))],z4.1.N,z4.1.T⟩) fun z4=>.ask {z:Tok × Nat // @Nat.le (z4.1.T) z.2} ⟨(.builtin "str.join" ⟨[(.str J10 (T + 1)),(.ref z4.1.l)],[]⟩),0,0,[(z4.1.l,(lst z4.1.vs z4.1.e))],z4.1.N,z4.1.T⟩ [6] (fun z5=>⟨(.ret (.str x5 z5.1.1)),[(lst z4.1.vs z4.1.e)],[],z4.1.N,z5.1.2⟩) fun z5=>.ask Tok ⟨(.builtin "dict.__getitem__" ⟨[(.ref bd),(.str x1 (k 14))],[]⟩),0,0,[(bd,(dob es e))],z4.1.N,(z5.1.2 + 1)⟩ [2] (fun z6=>⟨(.ret (.int v z6)),[(dob es e)],[],z4.1.N,(z5.1.2 + 2)⟩) fun z6=>.ask Unit ⟨(.builtin "str.__gt__" ⟨[(.str x2 t10),(.str x0 (k 12))],[]⟩),0,0,[],z4.1.N,(z5.1.2 + 2)⟩ [] (fun z7=>⟨(.ret (.bool true)),[],[],z4.1.N,(z5.1.2 + 2)⟩) fun z7=>.ask Unit ⟨(.builtin "int.__add__" ⟨[(.int v z6),(.int 1 (z5.1.2 + 2))],[]⟩),0,0,[],z4.1.N,(z5.1.2 + 3)⟩ [] (fun z8=>⟨(.ret (.int f (z5.1.2 + 3))),[],[],z4.1.N,(z5.1.2 + 4)⟩) fun z8=>.ask Tok ⟨(.builtin "dict.get" ⟨[(.ref gd),(.str x5 z5.1.1),(.int 0 (z5.1.2 + 5))],[]⟩),0,0,[(gd,(dob es1 e1))],z4.1.N,(z5.1.2 + 6)⟩ [3] (fun z9=>⟨(.ret (.int w z9)),[(dob es1 e1)],[],z4.1.N,(z5.1.2 + 7)⟩) fun z9=>.ask Unit ⟨(.builtin "int.__gt__" ⟨[(.int w z9),(.int f (z5.1.2 + 3))],[]⟩),0,1,[],(z4.1.N + 3),(z5.1.2 + 7)⟩ [] (fun z10=>⟨(.ret (.bool true)),[],[],(z4.1.N + 3),(z5.1.2 + 7)⟩) fun z10=>.ask {z:Array DictEntry × Nat // GD z.1} ⟨(.builtin "dict.__setitem__" ⟨[(.ref gd),(.str x5 z5.1.1),(.int w z9)],[]⟩),0,0,[(gd,(dob es1 e1))],(z4.1.N + 5),(z5.1.2 + 7)⟩ [3] (fun z11=>⟨(.ret .none),[(dob z11.1.1 z11.1.2)],[],(z4.1.N + 5),(z5.1.2 + 8)⟩) fun z11=>.fin (.ok (.again (fl142I aF aC it))) [(aF,(frm P [(J3,(k 0),(.ref ls)),(J0,(k 1),(.int rm (k 11))),(J2,(k 2),(.str x0 (k 12))),(J9,(k 3),(.ref gd)),(J13,(k 4),(.str x1 (k 14))),(J16,T,(.str x2 t10)),(J11,z5.1.2,(.str x5 z5.1.1)),(J1,(z5.1.2 + 4),(.int f (z5.1.2 + 3)))] 8)),(aC,(cel (some (.ref bd)))),(bd,(dob es e)),(gd,(dob z11.1.1 z11.1.2)),(it,(LI [(.ref l),(.int (i + 1) 0)])),(l,(lst vs e2)),(z4.1.l,(lst z4.1.vs z4.1.e)),(z4.1.N,(tup [(.int f (z5.1.2 + 3)),(.int w z9)] 0)),((z4.1.N + 1),(fds "tuple_iterator" [.none,(.int 2 0)])),((z4.1.N + 2),(lst [] 2)),((z4.1.N + 3),(tup [] 0)),((z4.1.N + 4),(fds "StopIteration" [(.ref (z4.1.N + 3)),.none,.none,.none,(.bool false),.none]))] (z4.1.N + 5) (z5.1.2 + 8)):=fx 11 ⟨⟨()⟩,fun z1=>⟨⟨(0,(T + 4)),Nat.le_refl _⟩⟩,fun z1 z2=>⟨⟨(0,z2.1.2),Nat.le_refl _⟩⟩,fun z1 z2 z3=>⟨⟨⟨0,_,0,0,z3.1.2⟩,Nat.le_refl _,tx_any ys⟩⟩,fun z1 z2 z3 z4=>⟨⟨(0,z4.1.T),Nat.le_refl _⟩⟩,fun z1 z2 z3 z4 z5=>⟨0⟩,fun z1 z2 z3 z4 z5 z6=>⟨()⟩,fun z1 z2 z3 z4 z5 z6 z7=>⟨()⟩,fun z1 z2 z3 z4 z5 z6 z7 z8=>⟨0⟩,fun z1 z2 z3 z4 z5 z6 z7 z8 z9=>⟨()⟩,fun z1 z2 z3 z4 z5 z6 z7 z8 z9 z10=>⟨gd0⟩,fun z1 z2 z3 z4 z5 z6 z7 z8 z9 z10 z11=>trivial⟩ (by kernel_rfl)
theorem mitf (aF aC ls bd gd it l:Addr) (k:Nat → Tok) (x0 x1 x2 x3 x4 x5 x6 x7:Str) (t10:Tok) (i rm v w f f0:Int) (vs:List Value) (ys:List Str) (es es1:Array DictEntry) (e e1 e2:Nat) (GD:Array DictEntry → Prop) (gd0:{z:Array DictEntry × Nat // GD z.1}):Sg b P 191 [5,5,1,1,0,0,1,1,1,1,1,2,1,3,3,3,3,1,1,1,1,0,0,1,1,4,4,4,4,1,4,8,8,8,9,10,9,9,9,9,8,9,9,10,10,10,10,9,9,9,9,8,9,9,10,9,9,9,9,8,9,9,12,10,10,10,1,1,4,4,4] [0,1,0,1,0,1,0,1,0,1,0,1,0,1,0,1,0,1,0,0,0,0,0,0,0,0,0,0,0,1,0,0,0,0,1] (fl142I aF aC it) [(aF,(frm P [(J3,(k 0),(.ref ls)),(J0,(k 1),(.int rm (k 11))),(J2,(k 2),(.str x0 (k 12))),(J9,(k 3),(.ref gd)),(J13,(k 4),(.str x1 (k 14))),(J16,(k 5),(.str x6 (k 15))),(J11,(k 6),(.str x7 (k 16))),(J1,(k 7),(.int f0 (k 17)))] 8)),(aC,(cel (some (.ref bd)))),(bd,(dob es e)),(gd,(dob es1 e1)),(it,(LI [(.ref l),(.int i 0)])),(l,(lst vs e2))] N T (.ask Unit ⟨(.builtin "list_iterator.__next__" ⟨[(.ref it)],[]⟩),0,0,[(it,(LI [(.ref l),(.int i 0)])),(l,(lst vs e2))],N,T⟩ [4,5] (fun z1=>⟨(.ret (.str x2 t10)),[(LI [(.ref l),(.int (i + 1) 0)]),(lst vs e2)],[],N,T⟩) fun z1=>.ask {z:Tok × Nat // @Nat.le ((T + 4)) z.2} ⟨(.builtin "str.replace" ⟨[(.str x1 (k 14)),(.str x2 t10),(.str J10 (T + 2)),(.int 1 (T + 3))],[]⟩),0,0,[],N,(T + 4)⟩ [] (fun z2=>⟨(.ret (.str x3 z2.1.1)),[],[],N,z2.1.2⟩) fun z2=>.ask {z:Tok × Nat // @Nat.le (z2.1.2) z.2} ⟨(.builtin "str.__add__" ⟨[(.str x3 z2.1.1),(.str x0 (k 12))],[]⟩),0,0,[],N,z2.1.2⟩ [] (fun z3=>⟨(.ret (.str x4 z3.1.1)),[],[],N,z3.1.2⟩) fun z3=>.ask {z:SZ // @Nat.le (z3.1.2) z.T ∧ TX z.vs ys} ⟨(.builtin "sorted" ⟨[(.str x4 z3.1.1)],[]⟩),0,0,[],N,z3.1.2⟩ [] (fun z4=>⟨(.ret (.ref z4.1.l)),[],[(z4.1.l,(lst z4.1.vs z4.1.e))],z4.1.N,z4.1.T⟩) fun z4=>.ask {z:Tok × Nat // @Nat.le (z4.1.T) z.2} ⟨(.builtin "str.join" ⟨[(.str J10 (T + 1)),(.ref z4.1.l)],[]⟩),0,0,[(z4.1.l,(lst z4.1.vs z4.1.e))],z4.1.N,z4.1.T⟩ [6] (fun z5=>⟨(.ret (.str x5 z5.1.1)),[(lst z4.1.vs z4.1.e)],[],z4.1.N,z5.1.2⟩) fun z5=>.ask Tok ⟨(.builtin "dict.__getitem__" ⟨[(.ref bd),(.str x1 (k 14))],[]⟩),0,0,[(bd,(dob es e))],z4.1.N,(z5.1.2 + 1)⟩ [2] (fun z6=>⟨(.ret (.int v z6)),[(dob es e)],[],z4.1.N,(z5.1.2 + 2)⟩) fun z6=>.ask Unit ⟨(.builtin "str.__gt__" ⟨[(.str x2 t10),(.str x0 (k 12))],[]⟩),0,0,[],z4.1.N,(z5.1.2 + 2)⟩ [] (fun z7=>⟨(.ret (.bool true)),[],[],z4.1.N,(z5.1.2 + 2)⟩) fun z7=>.ask Unit ⟨(.builtin "int.__add__" ⟨[(.int v z6),(.int 1 (z5.1.2 + 2))],[]⟩),0,0,[],z4.1.N,(z5.1.2 + 3)⟩ [] (fun z8=>⟨(.ret (.int f (z5.1.2 + 3))),[],[],z4.1.N,(z5.1.2 + 4)⟩) fun z8=>.ask Tok ⟨(.builtin "dict.get" ⟨[(.ref gd),(.str x5 z5.1.1),(.int 0 (z5.1.2 + 5))],[]⟩),0,0,[(gd,(dob es1 e1))],z4.1.N,(z5.1.2 + 6)⟩ [3] (fun z9=>⟨(.ret (.int w z9)),[(dob es1 e1)],[],z4.1.N,(z5.1.2 + 7)⟩) fun z9=>.ask Unit ⟨(.builtin "int.__gt__" ⟨[(.int w z9),(.int f (z5.1.2 + 3))],[]⟩),0,1,[],(z4.1.N + 3),(z5.1.2 + 7)⟩ [] (fun z10=>⟨(.ret (.bool false)),[],[],(z4.1.N + 3),(z5.1.2 + 7)⟩) fun z10=>.ask {z:Array DictEntry × Nat // GD z.1} ⟨(.builtin "dict.__setitem__" ⟨[(.ref gd),(.str x5 z5.1.1),(.int f (z5.1.2 + 3))],[]⟩),0,0,[(gd,(dob es1 e1))],(z4.1.N + 5),(z5.1.2 + 7)⟩ [3] (fun z11=>⟨(.ret .none),[(dob z11.1.1 z11.1.2)],[],(z4.1.N + 5),(z5.1.2 + 8)⟩) fun z11=>.fin (.ok (.again (fl142I aF aC it))) [(aF,(frm P [(J3,(k 0),(.ref ls)),(J0,(k 1),(.int rm (k 11))),(J2,(k 2),(.str x0 (k 12))),(J9,(k 3),(.ref gd)),(J13,(k 4),(.str x1 (k 14))),(J16,(k 5),(.str x2 t10)),(J11,(k 6),(.str x5 z5.1.1)),(J1,(k 7),(.int f (z5.1.2 + 3)))] 8)),(aC,(cel (some (.ref bd)))),(bd,(dob es e)),(gd,(dob z11.1.1 z11.1.2)),(it,(LI [(.ref l),(.int (i + 1) 0)])),(l,(lst vs e2)),(z4.1.l,(lst z4.1.vs z4.1.e)),(z4.1.N,(tup [(.int f (z5.1.2 + 3)),(.int w z9)] 0)),((z4.1.N + 1),(fds "tuple_iterator" [.none,(.int 2 0)])),((z4.1.N + 2),(lst [] 2)),((z4.1.N + 3),(tup [] 0)),((z4.1.N + 4),(fds "StopIteration" [(.ref (z4.1.N + 3)),.none,.none,.none,(.bool false),.none]))] (z4.1.N + 5) (z5.1.2 + 8)):=fx 11 ⟨⟨()⟩,fun z1=>⟨⟨(0,(T + 4)),Nat.le_refl _⟩⟩,fun z1 z2=>⟨⟨(0,z2.1.2),Nat.le_refl _⟩⟩,fun z1 z2 z3=>⟨⟨⟨0,_,0,0,z3.1.2⟩,Nat.le_refl _,tx_any ys⟩⟩,fun z1 z2 z3 z4=>⟨⟨(0,z4.1.T),Nat.le_refl _⟩⟩,fun z1 z2 z3 z4 z5=>⟨0⟩,fun z1 z2 z3 z4 z5 z6=>⟨()⟩,fun z1 z2 z3 z4 z5 z6 z7=>⟨()⟩,fun z1 z2 z3 z4 z5 z6 z7 z8=>⟨0⟩,fun z1 z2 z3 z4 z5 z6 z7 z8 z9=>⟨()⟩,fun z1 z2 z3 z4 z5 z6 z7 z8 z9 z10=>⟨gd0⟩,fun z1 z2 z3 z4 z5 z6 z7 z8 z9 z10 z11=>trivial⟩ (by kernel_rfl)
theorem mjtf (aF aC ls bd gd it l:Addr) (k:Nat → Tok) (x0 x1 x2 x3 x4 x5 x6 x7:Str) (t10:Tok) (i rm v w f f0:Int) (vs:List Value) (ys:List Str) (es es1:Array DictEntry) (e e1 e2:Nat) (GD:Array DictEntry → Prop) (gd0:{z:Array DictEntry × Nat // GD z.1}):Sg b P 191 [5,5,1,1,0,0,1,1,1,1,1,2,1,3,3,3,3,1,1,1,1,0,0,1,1,4,4,4,4,1,4,8,8,8,9,10,9,9,9,9,8,9,9,10,10,10,10,9,9,9,9,8,9,9,10,9,9,9,9,8,9,9,12,10,10,10,1,1,4,4,4] [0,1,0,1,0,1,0,1,0,1,0,1,0,1,0,1,0,1,0,0,0,0,0,0,0,0,0,0,0,1,0,0,0,0,1] (fl142I aF aC it) [(aF,(frm P [(J3,(k 0),(.ref ls)),(J0,(k 1),(.int rm (k 11))),(J2,(k 2),(.str x0 (k 12))),(J9,(k 3),(.ref gd)),(J13,(k 4),(.str x1 (k 14)))] 5)),(aC,(cel (some (.ref bd)))),(bd,(dob es e)),(gd,(dob es1 e1)),(it,(LI [(.ref l),(.int i 0)])),(l,(lst vs e2))] N T (.ask Unit ⟨(.builtin "list_iterator.__next__" ⟨[(.ref it)],[]⟩),0,0,[(it,(LI [(.ref l),(.int i 0)])),(l,(lst vs e2))],N,T⟩ [4,5] (fun z1=>⟨(.ret (.str x2 t10)),[(LI [(.ref l),(.int (i + 1) 0)]),(lst vs e2)],[],N,T⟩) fun z1=>.ask {z:Tok × Nat // @Nat.le ((T + 4)) z.2} ⟨(.builtin "str.replace" ⟨[(.str x1 (k 14)),(.str x2 t10),(.str J10 (T + 2)),(.int 1 (T + 3))],[]⟩),0,0,[],N,(T + 4)⟩ [] (fun z2=>⟨(.ret (.str x3 z2.1.1)),[],[],N,z2.1.2⟩) fun z2=>.ask {z:Tok × Nat // @Nat.le (z2.1.2) z.2} ⟨(.builtin "str.__add__" ⟨[(.str x3 z2.1.1),(.str x0 (k 12))],[]⟩),0,0,[],N,z2.1.2⟩ [] (fun z3=>⟨(.ret (.str x4 z3.1.1)),[],[],N,z3.1.2⟩) fun z3=>.ask {z:SZ // @Nat.le (z3.1.2) z.T ∧ TX z.vs ys} ⟨(.builtin "sorted" ⟨[(.str x4 z3.1.1)],[]⟩),0,0,[],N,z3.1.2⟩ [] (fun z4=>⟨(.ret (.ref z4.1.l)),[],[(z4.1.l,(lst z4.1.vs z4.1.e))],z4.1.N,z4.1.T⟩) fun z4=>.ask {z:Tok × Nat // @Nat.le (z4.1.T) z.2} ⟨(.builtin "str.join" ⟨[(.str J10 (T + 1)),(.ref z4.1.l)],[]⟩),0,0,[(z4.1.l,(lst z4.1.vs z4.1.e))],z4.1.N,z4.1.T⟩ [6] (fun z5=>⟨(.ret (.str x5 z5.1.1)),[(lst z4.1.vs z4.1.e)],[],z4.1.N,z5.1.2⟩) fun z5=>.ask Tok ⟨(.builtin "dict.__getitem__" ⟨[(.ref bd),(.str x1 (k 14))],[]⟩),0,0,[(bd,(dob es e))],z4.1.N,(z5.1.2 + 1)⟩ [2] (fun z6=>⟨(.ret (.int v z6)),[(dob es e)],[],z4.1.N,(z5.1.2 + 2)⟩) fun z6=>.ask Unit ⟨(.builtin "str.__gt__" ⟨[(.str x2 t10),(.str x0 (k 12))],[]⟩),0,0,[],z4.1.N,(z5.1.2 + 2)⟩ [] (fun z7=>⟨(.ret (.bool true)),[],[],z4.1.N,(z5.1.2 + 2)⟩) fun z7=>.ask Unit ⟨(.builtin "int.__add__" ⟨[(.int v z6),(.int 1 (z5.1.2 + 2))],[]⟩),0,0,[],z4.1.N,(z5.1.2 + 3)⟩ [] (fun z8=>⟨(.ret (.int f (z5.1.2 + 3))),[],[],z4.1.N,(z5.1.2 + 4)⟩) fun z8=>.ask Tok ⟨(.builtin "dict.get" ⟨[(.ref gd),(.str x5 z5.1.1),(.int 0 (z5.1.2 + 5))],[]⟩),0,0,[(gd,(dob es1 e1))],z4.1.N,(z5.1.2 + 6)⟩ [3] (fun z9=>⟨(.ret (.int w z9)),[(dob es1 e1)],[],z4.1.N,(z5.1.2 + 7)⟩) fun z9=>.ask Unit ⟨(.builtin "int.__gt__" ⟨[(.int w z9),(.int f (z5.1.2 + 3))],[]⟩),0,1,[],(z4.1.N + 3),(z5.1.2 + 7)⟩ [] (fun z10=>⟨(.ret (.bool false)),[],[],(z4.1.N + 3),(z5.1.2 + 7)⟩) fun z10=>.ask {z:Array DictEntry × Nat // GD z.1} ⟨(.builtin "dict.__setitem__" ⟨[(.ref gd),(.str x5 z5.1.1),(.int f (z5.1.2 + 3))],[]⟩),0,0,[(gd,(dob es1 e1))],(z4.1.N + 5),(z5.1.2 + 7)⟩ [3] (fun z11=>⟨(.ret .none),[(dob z11.1.1 z11.1.2)],[],(z4.1.N + 5),(z5.1.2 + 8)⟩) fun z11=>.fin (.ok (.again (fl142I aF aC it))) [(aF,(frm P [(J3,(k 0),(.ref ls)),(J0,(k 1),(.int rm (k 11))),(J2,(k 2),(.str x0 (k 12))),(J9,(k 3),(.ref gd)),(J13,(k 4),(.str x1 (k 14))),(J16,T,(.str x2 t10)),(J11,z5.1.2,(.str x5 z5.1.1)),(J1,(z5.1.2 + 4),(.int f (z5.1.2 + 3)))] 8)),(aC,(cel (some (.ref bd)))),(bd,(dob es e)),(gd,(dob z11.1.1 z11.1.2)),(it,(LI [(.ref l),(.int (i + 1) 0)])),(l,(lst vs e2)),(z4.1.l,(lst z4.1.vs z4.1.e)),(z4.1.N,(tup [(.int f (z5.1.2 + 3)),(.int w z9)] 0)),((z4.1.N + 1),(fds "tuple_iterator" [.none,(.int 2 0)])),((z4.1.N + 2),(lst [] 2)),((z4.1.N + 3),(tup [] 0)),((z4.1.N + 4),(fds "StopIteration" [(.ref (z4.1.N + 3)),.none,.none,.none,(.bool false),.none]))] (z4.1.N + 5) (z5.1.2 + 8)):=fx 11 ⟨⟨()⟩,fun z1=>⟨⟨(0,(T + 4)),Nat.le_refl _⟩⟩,fun z1 z2=>⟨⟨(0,z2.1.2),Nat.le_refl _⟩⟩,fun z1 z2 z3=>⟨⟨⟨0,_,0,0,z3.1.2⟩,Nat.le_refl _,tx_any ys⟩⟩,fun z1 z2 z3 z4=>⟨⟨(0,z4.1.T),Nat.le_refl _⟩⟩,fun z1 z2 z3 z4 z5=>⟨0⟩,fun z1 z2 z3 z4 z5 z6=>⟨()⟩,fun z1 z2 z3 z4 z5 z6 z7=>⟨()⟩,fun z1 z2 z3 z4 z5 z6 z7 z8=>⟨0⟩,fun z1 z2 z3 z4 z5 z6 z7 z8 z9=>⟨()⟩,fun z1 z2 z3 z4 z5 z6 z7 z8 z9 z10=>⟨gd0⟩,fun z1 z2 z3 z4 z5 z6 z7 z8 z9 z10 z11=>trivial⟩ (by kernel_rfl)
theorem mift (aF aC ls bd gd it l:Addr) (k:Nat → Tok) (x0 x1 x2 x3 x4 x5 x6 x7:Str) (t10:Tok) (i rm v w f f0:Int) (vs:List Value) (ys:List Str) (es es1:Array DictEntry) (e e1 e2:Nat) (GD:Array DictEntry → Prop) (gd0:{z:Array DictEntry × Nat // GD z.1}):Sg b P 194 [5,5,1,1,0,0,1,1,1,1,1,2,1,3,3,3,3,1,1,1,1,0,0,1,1,4,4,4,4,1,4,8,8,8,9,10,9,9,9,9,8,9,9,10,10,10,10,9,9,9,9,8,9,9,10,10,10,10,9,9,9,9,8,9,9,12,10,10,10,1,1,4,4,4] [0,1,0,1,0,1,0,1,0,1,0,1,0,1,0,1,0,1,0,0,0,0,0,0,0,0,0,0,0,1,0,0,0,0,1] (fl142I aF aC it) [(aF,(frm P [(J3,(k 0),(.ref ls)),(J0,(k 1),(.int rm (k 11))),(J2,(k 2),(.str x0 (k 12))),(J9,(k 3),(.ref gd)),(J13,(k 4),(.str x1 (k 14))),(J16,(k 5),(.str x6 (k 15))),(J11,(k 6),(.str x7 (k 16))),(J1,(k 7),(.int f0 (k 17)))] 8)),(aC,(cel (some (.ref bd)))),(bd,(dob es e)),(gd,(dob es1 e1)),(it,(LI [(.ref l),(.int i 0)])),(l,(lst vs e2))] N T (.ask Unit ⟨(.builtin "list_iterator.__next__" ⟨[(.ref it)],[]⟩),0,0,[(it,(LI [(.ref l),(.int i 0)])),(l,(lst vs e2))],N,T⟩ [4,5] (fun z1=>⟨(.ret (.str x2 t10)),[(LI [(.ref l),(.int (i + 1) 0)]),(lst vs e2)],[],N,T⟩) fun z1=>.ask {z:Tok × Nat // @Nat.le ((T + 4)) z.2} ⟨(.builtin "str.replace" ⟨[(.str x1 (k 14)),(.str x2 t10),(.str J10 (T + 2)),(.int 1 (T + 3))],[]⟩),0,0,[],N,(T + 4)⟩ [] (fun z2=>⟨(.ret (.str x3 z2.1.1)),[],[],N,z2.1.2⟩) fun z2=>.ask {z:Tok × Nat // @Nat.le (z2.1.2) z.2} ⟨(.builtin "str.__add__" ⟨[(.str x3 z2.1.1),(.str x0 (k 12))],[]⟩),0,0,[],N,z2.1.2⟩ [] (fun z3=>⟨(.ret (.str x4 z3.1.1)),[],[],N,z3.1.2⟩) fun z3=>.ask {z:SZ // @Nat.le (z3.1.2) z.T ∧ TX z.vs ys} ⟨(.builtin "sorted" ⟨[(.str x4 z3.1.1)],[]⟩),0,0,[],N,z3.1.2⟩ [] (fun z4=>⟨(.ret (.ref z4.1.l)),[],[(z4.1.l,(lst z4.1.vs z4.1.e))],z4.1.N,z4.1.T⟩) fun z4=>.ask {z:Tok × Nat // @Nat.le (z4.1.T) z.2} ⟨(.builtin "str.join" ⟨[(.str J10 (T + 1)),(.ref z4.1.l)],[]⟩),0,0,[(z4.1.l,(lst z4.1.vs z4.1.e))],z4.1.N,z4.1.T⟩ [6] (fun z5=>⟨(.ret (.str x5 z5.1.1)),[(lst z4.1.vs z4.1.e)],[],z4.1.N,z5.1.2⟩) fun z5=>.ask Tok ⟨(.builtin "dict.__getitem__" ⟨[(.ref bd),(.str x1 (k 14))],[]⟩),0,0,[(bd,(dob es e))],z4.1.N,(z5.1.2 + 1)⟩ [2] (fun z6=>⟨(.ret (.int v z6)),[(dob es e)],[],z4.1.N,(z5.1.2 + 2)⟩) fun z6=>.ask Unit ⟨(.builtin "str.__gt__" ⟨[(.str x2 t10),(.str x0 (k 12))],[]⟩),0,0,[],z4.1.N,(z5.1.2 + 2)⟩ [] (fun z7=>⟨(.ret (.bool false)),[],[],z4.1.N,(z5.1.2 + 2)⟩) fun z7=>.ask Unit ⟨(.builtin "int.__add__" ⟨[(.int v z6),(.int 0 (z5.1.2 + 2))],[]⟩),0,0,[],z4.1.N,(z5.1.2 + 3)⟩ [] (fun z8=>⟨(.ret (.int f (z5.1.2 + 3))),[],[],z4.1.N,(z5.1.2 + 4)⟩) fun z8=>.ask Tok ⟨(.builtin "dict.get" ⟨[(.ref gd),(.str x5 z5.1.1),(.int 0 (z5.1.2 + 5))],[]⟩),0,0,[(gd,(dob es1 e1))],z4.1.N,(z5.1.2 + 6)⟩ [3] (fun z9=>⟨(.ret (.int w z9)),[(dob es1 e1)],[],z4.1.N,(z5.1.2 + 7)⟩) fun z9=>.ask Unit ⟨(.builtin "int.__gt__" ⟨[(.int w z9),(.int f (z5.1.2 + 3))],[]⟩),0,1,[],(z4.1.N + 3),(z5.1.2 + 7)⟩ [] (fun z10=>⟨(.ret (.bool true)),[],[],(z4.1.N + 3),(z5.1.2 + 7)⟩) fun z10=>.ask {z:Array DictEntry × Nat // GD z.1} ⟨(.builtin "dict.__setitem__" ⟨[(.ref gd),(.str x5 z5.1.1),(.int w z9)],[]⟩),0,0,[(gd,(dob es1 e1))],(z4.1.N + 5),(z5.1.2 + 7)⟩ [3] (fun z11=>⟨(.ret .none),[(dob z11.1.1 z11.1.2)],[],(z4.1.N + 5),(z5.1.2 + 8)⟩) fun z11=>.fin (.ok (.again (fl142I aF aC it))) [(aF,(frm P [(J3,(k 0),(.ref ls)),(J0,(k 1),(.int rm (k 11))),(J2,(k 2),(.str x0 (k 12))),(J9,(k 3),(.ref gd)),(J13,(k 4),(.str x1 (k 14))),(J16,(k 5),(.str x2 t10)),(J11,(k 6),(.str x5 z5.1.1)),(J1,(k 7),(.int f (z5.1.2 + 3)))] 8)),(aC,(cel (some (.ref bd)))),(bd,(dob es e)),(gd,(dob z11.1.1 z11.1.2)),(it,(LI [(.ref l),(.int (i + 1) 0)])),(l,(lst vs e2)),(z4.1.l,(lst z4.1.vs z4.1.e)),(z4.1.N,(tup [(.int f (z5.1.2 + 3)),(.int w z9)] 0)),((z4.1.N + 1),(fds "tuple_iterator" [.none,(.int 2 0)])),((z4.1.N + 2),(lst [] 2)),((z4.1.N + 3),(tup [] 0)),((z4.1.N + 4),(fds "StopIteration" [(.ref (z4.1.N + 3)),.none,.none,.none,(.bool false),.none]))] (z4.1.N + 5) (z5.1.2 + 8)):=fx 11 ⟨⟨()⟩,fun z1=>⟨⟨(0,(T + 4)),Nat.le_refl _⟩⟩,fun z1 z2=>⟨⟨(0,z2.1.2),Nat.le_refl _⟩⟩,fun z1 z2 z3=>⟨⟨⟨0,_,0,0,z3.1.2⟩,Nat.le_refl _,tx_any ys⟩⟩,fun z1 z2 z3 z4=>⟨⟨(0,z4.1.T),Nat.le_refl _⟩⟩,fun z1 z2 z3 z4 z5=>⟨0⟩,fun z1 z2 z3 z4 z5 z6=>⟨()⟩,fun z1 z2 z3 z4 z5 z6 z7=>⟨()⟩,fun z1 z2 z3 z4 z5 z6 z7 z8=>⟨0⟩,fun z1 z2 z3 z4 z5 z6 z7 z8 z9=>⟨()⟩,fun z1 z2 z3 z4 z5 z6 z7 z8 z9 z10=>⟨gd0⟩,fun z1 z2 z3 z4 z5 z6 z7 z8 z9 z10 z11=>trivial⟩ (by kernel_rfl)
theorem mjft (aF aC ls bd gd it l:Addr) (k:Nat → Tok) (x0 x1 x2 x3 x4 x5 x6 x7:Str) (t10:Tok) (i rm v w f f0:Int) (vs:List Value) (ys:List Str) (es es1:Array DictEntry) (e e1 e2:Nat) (GD:Array DictEntry → Prop) (gd0:{z:Array DictEntry × Nat // GD z.1}):Sg b P 194 [5,5,1,1,0,0,1,1,1,1,1,2,1,3,3,3,3,1,1,1,1,0,0,1,1,4,4,4,4,1,4,8,8,8,9,10,9,9,9,9,8,9,9,10,10,10,10,9,9,9,9,8,9,9,10,10,10,10,9,9,9,9,8,9,9,12,10,10,10,1,1,4,4,4] [0,1,0,1,0,1,0,1,0,1,0,1,0,1,0,1,0,1,0,0,0,0,0,0,0,0,0,0,0,1,0,0,0,0,1] (fl142I aF aC it) [(aF,(frm P [(J3,(k 0),(.ref ls)),(J0,(k 1),(.int rm (k 11))),(J2,(k 2),(.str x0 (k 12))),(J9,(k 3),(.ref gd)),(J13,(k 4),(.str x1 (k 14)))] 5)),(aC,(cel (some (.ref bd)))),(bd,(dob es e)),(gd,(dob es1 e1)),(it,(LI [(.ref l),(.int i 0)])),(l,(lst vs e2))] N T (.ask Unit ⟨(.builtin "list_iterator.__next__" ⟨[(.ref it)],[]⟩),0,0,[(it,(LI [(.ref l),(.int i 0)])),(l,(lst vs e2))],N,T⟩ [4,5] (fun z1=>⟨(.ret (.str x2 t10)),[(LI [(.ref l),(.int (i + 1) 0)]),(lst vs e2)],[],N,T⟩) fun z1=>.ask {z:Tok × Nat // @Nat.le ((T + 4)) z.2} ⟨(.builtin "str.replace" ⟨[(.str x1 (k 14)),(.str x2 t10),(.str J10 (T + 2)),(.int 1 (T + 3))],[]⟩),0,0,[],N,(T + 4)⟩ [] (fun z2=>⟨(.ret (.str x3 z2.1.1)),[],[],N,z2.1.2⟩) fun z2=>.ask {z:Tok × Nat // @Nat.le (z2.1.2) z.2} ⟨(.builtin "str.__add__" ⟨[(.str x3 z2.1.1),(.str x0 (k 12))],[]⟩),0,0,[],N,z2.1.2⟩ [] (fun z3=>⟨(.ret (.str x4 z3.1.1)),[],[],N,z3.1.2⟩) fun z3=>.ask {z:SZ // @Nat.le (z3.1.2) z.T ∧ TX z.vs ys} ⟨(.builtin "sorted" ⟨[(.str x4 z3.1.1)],[]⟩),0,0,[],N,z3.1.2⟩ [] (fun z4=>⟨(.ret (.ref z4.1.l)),[],[(z4.1.l,(lst z4.1.vs z4.1.e))],z4.1.N,z4.1.T⟩) fun z4=>.ask {z:Tok × Nat // @Nat.le (z4.1.T) z.2} ⟨(.builtin "str.join" ⟨[(.str J10 (T + 1)),(.ref z4.1.l)],[]⟩),0,0,[(z4.1.l,(lst z4.1.vs z4.1.e))],z4.1.N,z4.1.T⟩ [6] (fun z5=>⟨(.ret (.str x5 z5.1.1)),[(lst z4.1.vs z4.1.e)],[],z4.1.N,z5.1.2⟩) fun z5=>.ask Tok ⟨(.builtin "dict.__getitem__" ⟨[(.ref bd),(.str x1 (k 14))],[]⟩),0,0,[(bd,(dob es e))],z4.1.N,(z5.1.2 + 1)⟩ [2] (fun z6=>⟨(.ret (.int v z6)),[(dob es e)],[],z4.1.N,(z5.1.2 + 2)⟩) fun z6=>.ask Unit ⟨(.builtin "str.__gt__" ⟨[(.str x2 t10),(.str x0 (k 12))],[]⟩),0,0,[],z4.1.N,(z5.1.2 + 2)⟩ [] (fun z7=>⟨(.ret (.bool false)),[],[],z4.1.N,(z5.1.2 + 2)⟩) fun z7=>.ask Unit ⟨(.builtin "int.__add__" ⟨[(.int v z6),(.int 0 (z5.1.2 + 2))],[]⟩),0,0,[],z4.1.N,(z5.1.2 + 3)⟩ [] (fun z8=>⟨(.ret (.int f (z5.1.2 + 3))),[],[],z4.1.N,(z5.1.2 + 4)⟩) fun z8=>.ask Tok ⟨(.builtin "dict.get" ⟨[(.ref gd),(.str x5 z5.1.1),(.int 0 (z5.1.2 + 5))],[]⟩),0,0,[(gd,(dob es1 e1))],z4.1.N,(z5.1.2 + 6)⟩ [3] (fun z9=>⟨(.ret (.int w z9)),[(dob es1 e1)],[],z4.1.N,(z5.1.2 + 7)⟩) fun z9=>.ask Unit ⟨(.builtin "int.__gt__" ⟨[(.int w z9),(.int f (z5.1.2 + 3))],[]⟩),0,1,[],(z4.1.N + 3),(z5.1.2 + 7)⟩ [] (fun z10=>⟨(.ret (.bool true)),[],[],(z4.1.N + 3),(z5.1.2 + 7)⟩) fun z10=>.ask {z:Array DictEntry × Nat // GD z.1} ⟨(.builtin "dict.__setitem__" ⟨[(.ref gd),(.str x5 z5.1.1),(.int w z9)],[]⟩),0,0,[(gd,(dob es1 e1))],(z4.1.N + 5),(z5.1.2 + 7)⟩ [3] (fun z11=>⟨(.ret .none),[(dob z11.1.1 z11.1.2)],[],(z4.1.N + 5),(z5.1.2 + 8)⟩) fun z11=>.fin (.ok (.again (fl142I aF aC it))) [(aF,(frm P [(J3,(k 0),(.ref ls)),(J0,(k 1),(.int rm (k 11))),(J2,(k 2),(.str x0 (k 12))),(J9,(k 3),(.ref gd)),(J13,(k 4),(.str x1 (k 14))),(J16,T,(.str x2 t10)),(J11,z5.1.2,(.str x5 z5.1.1)),(J1,(z5.1.2 + 4),(.int f (z5.1.2 + 3)))] 8)),(aC,(cel (some (.ref bd)))),(bd,(dob es e)),(gd,(dob z11.1.1 z11.1.2)),(it,(LI [(.ref l),(.int (i + 1) 0)])),(l,(lst vs e2)),(z4.1.l,(lst z4.1.vs z4.1.e)),(z4.1.N,(tup [(.int f (z5.1.2 + 3)),(.int w z9)] 0)),((z4.1.N + 1),(fds "tuple_iterator" [.none,(.int 2 0)])),((z4.1.N + 2),(lst [] 2)),((z4.1.N + 3),(tup [] 0)),((z4.1.N + 4),(fds "StopIteration" [(.ref (z4.1.N + 3)),.none,.none,.none,(.bool false),.none]))] (z4.1.N + 5) (z5.1.2 + 8)):=fx 11 ⟨⟨()⟩,fun z1=>⟨⟨(0,(T + 4)),Nat.le_refl _⟩⟩,fun z1 z2=>⟨⟨(0,z2.1.2),Nat.le_refl _⟩⟩,fun z1 z2 z3=>⟨⟨⟨0,_,0,0,z3.1.2⟩,Nat.le_refl _,tx_any ys⟩⟩,fun z1 z2 z3 z4=>⟨⟨(0,z4.1.T),Nat.le_refl _⟩⟩,fun z1 z2 z3 z4 z5=>⟨0⟩,fun z1 z2 z3 z4 z5 z6=>⟨()⟩,fun z1 z2 z3 z4 z5 z6 z7=>⟨()⟩,fun z1 z2 z3 z4 z5 z6 z7 z8=>⟨0⟩,fun z1 z2 z3 z4 z5 z6 z7 z8 z9=>⟨()⟩,fun z1 z2 z3 z4 z5 z6 z7 z8 z9 z10=>⟨gd0⟩,fun z1 z2 z3 z4 z5 z6 z7 z8 z9 z10 z11=>trivial⟩ (by kernel_rfl)
theorem miff (aF aC ls bd gd it l:Addr) (k:Nat → Tok) (x0 x1 x2 x3 x4 x5 x6 x7:Str) (t10:Tok) (i rm v w f f0:Int) (vs:List Value) (ys:List Str) (es es1:Array DictEntry) (e e1 e2:Nat) (GD:Array DictEntry → Prop) (gd0:{z:Array DictEntry × Nat // GD z.1}):Sg b P 191 [5,5,1,1,0,0,1,1,1,1,1,2,1,3,3,3,3,1,1,1,1,0,0,1,1,4,4,4,4,1,4,8,8,8,9,10,9,9,9,9,8,9,9,10,10,10,10,9,9,9,9,8,9,9,10,9,9,9,9,8,9,9,12,10,10,10,1,1,4,4,4] [0,1,0,1,0,1,0,1,0,1,0,1,0,1,0,1,0,1,0,0,0,0,0,0,0,0,0,0,0,1,0,0,0,0,1] (fl142I aF aC it) [(aF,(frm P [(J3,(k 0),(.ref ls)),(J0,(k 1),(.int rm (k 11))),(J2,(k 2),(.str x0 (k 12))),(J9,(k 3),(.ref gd)),(J13,(k 4),(.str x1 (k 14))),(J16,(k 5),(.str x6 (k 15))),(J11,(k 6),(.str x7 (k 16))),(J1,(k 7),(.int f0 (k 17)))] 8)),(aC,(cel (some (.ref bd)))),(bd,(dob es e)),(gd,(dob es1 e1)),(it,(LI [(.ref l),(.int i 0)])),(l,(lst vs e2))] N T (.ask Unit ⟨(.builtin "list_iterator.__next__" ⟨[(.ref it)],[]⟩),0,0,[(it,(LI [(.ref l),(.int i 0)])),(l,(lst vs e2))],N,T⟩ [4,5] (fun z1=>⟨(.ret (.str x2 t10)),[(LI [(.ref l),(.int (i + 1) 0)]),(lst vs e2)],[],N,T⟩) fun z1=>.ask {z:Tok × Nat // @Nat.le ((T + 4)) z.2} ⟨(.builtin "str.replace" ⟨[(.str x1 (k 14)),(.str x2 t10),(.str J10 (T + 2)),(.int 1 (T + 3))],[]⟩),0,0,[],N,(T + 4)⟩ [] (fun z2=>⟨(.ret (.str x3 z2.1.1)),[],[],N,z2.1.2⟩) fun z2=>.ask {z:Tok × Nat // @Nat.le (z2.1.2) z.2} ⟨(.builtin "str.__add__" ⟨[(.str x3 z2.1.1),(.str x0 (k 12))],[]⟩),0,0,[],N,z2.1.2⟩ [] (fun z3=>⟨(.ret (.str x4 z3.1.1)),[],[],N,z3.1.2⟩) fun z3=>.ask {z:SZ // @Nat.le (z3.1.2) z.T ∧ TX z.vs ys} ⟨(.builtin "sorted" ⟨[(.str x4 z3.1.1)],[]⟩),0,0,[],N,z3.1.2⟩ [] (fun z4=>⟨(.ret (.ref z4.1.l)),[],[(z4.1.l,(lst z4.1.vs z4.1.e))],z4.1.N,z4.1.T⟩) fun z4=>.ask {z:Tok × Nat // @Nat.le (z4.1.T) z.2} ⟨(.builtin "str.join" ⟨[(.str J10 (T + 1)),(.ref z4.1.l)],[]⟩),0,0,[(z4.1.l,(lst z4.1.vs z4.1.e))],z4.1.N,z4.1.T⟩ [6] (fun z5=>⟨(.ret (.str x5 z5.1.1)),[(lst z4.1.vs z4.1.e)],[],z4.1.N,z5.1.2⟩) fun z5=>.ask Tok ⟨(.builtin "dict.__getitem__" ⟨[(.ref bd),(.str x1 (k 14))],[]⟩),0,0,[(bd,(dob es e))],z4.1.N,(z5.1.2 + 1)⟩ [2] (fun z6=>⟨(.ret (.int v z6)),[(dob es e)],[],z4.1.N,(z5.1.2 + 2)⟩) fun z6=>.ask Unit ⟨(.builtin "str.__gt__" ⟨[(.str x2 t10),(.str x0 (k 12))],[]⟩),0,0,[],z4.1.N,(z5.1.2 + 2)⟩ [] (fun z7=>⟨(.ret (.bool false)),[],[],z4.1.N,(z5.1.2 + 2)⟩) fun z7=>.ask Unit ⟨(.builtin "int.__add__" ⟨[(.int v z6),(.int 0 (z5.1.2 + 2))],[]⟩),0,0,[],z4.1.N,(z5.1.2 + 3)⟩ [] (fun z8=>⟨(.ret (.int f (z5.1.2 + 3))),[],[],z4.1.N,(z5.1.2 + 4)⟩) fun z8=>.ask Tok ⟨(.builtin "dict.get" ⟨[(.ref gd),(.str x5 z5.1.1),(.int 0 (z5.1.2 + 5))],[]⟩),0,0,[(gd,(dob es1 e1))],z4.1.N,(z5.1.2 + 6)⟩ [3] (fun z9=>⟨(.ret (.int w z9)),[(dob es1 e1)],[],z4.1.N,(z5.1.2 + 7)⟩) fun z9=>.ask Unit ⟨(.builtin "int.__gt__" ⟨[(.int w z9),(.int f (z5.1.2 + 3))],[]⟩),0,1,[],(z4.1.N + 3),(z5.1.2 + 7)⟩ [] (fun z10=>⟨(.ret (.bool false)),[],[],(z4.1.N + 3),(z5.1.2 + 7)⟩) fun z10=>.ask {z:Array DictEntry × Nat // GD z.1} ⟨(.builtin "dict.__setitem__" ⟨[(.ref gd),(.str x5 z5.1.1),(.int f (z5.1.2 + 3))],[]⟩),0,0,[(gd,(dob es1 e1))],(z4.1.N + 5),(z5.1.2 + 7)⟩ [3] (fun z11=>⟨(.ret .none),[(dob z11.1.1 z11.1.2)],[],(z4.1.N + 5),(z5.1.2 + 8)⟩) fun z11=>.fin (.ok (.again (fl142I aF aC it))) [(aF,(frm P [(J3,(k 0),(.ref ls)),(J0,(k 1),(.int rm (k 11))),(J2,(k 2),(.str x0 (k 12))),(J9,(k 3),(.ref gd)),(J13,(k 4),(.str x1 (k 14))),(J16,(k 5),(.str x2 t10)),(J11,(k 6),(.str x5 z5.1.1)),(J1,(k 7),(.int f (z5.1.2 + 3)))] 8)),(aC,(cel (some (.ref bd)))),(bd,(dob es e)),(gd,(dob z11.1.1 z11.1.2)),(it,(LI [(.ref l),(.int (i + 1) 0)])),(l,(lst vs e2)),(z4.1.l,(lst z4.1.vs z4.1.e)),(z4.1.N,(tup [(.int f (z5.1.2 + 3)),(.int w z9)] 0)),((z4.1.N + 1),(fds "tuple_iterator" [.none,(.int 2 0)])),((z4.1.N + 2),(lst [] 2)),((z4.1.N + 3),(tup [] 0)),((z4.1.N + 4),(fds "StopIteration" [(.ref (z4.1.N + 3)),.none,.none,.none,(.bool false),.none]))] (z4.1.N + 5) (z5.1.2 + 8)):=fx 11 ⟨⟨()⟩,fun z1=>⟨⟨(0,(T + 4)),Nat.le_refl _⟩⟩,fun z1 z2=>⟨⟨(0,z2.1.2),Nat.le_refl _⟩⟩,fun z1 z2 z3=>⟨⟨⟨0,_,0,0,z3.1.2⟩,Nat.le_refl _,tx_any ys⟩⟩,fun z1 z2 z3 z4=>⟨⟨(0,z4.1.T),Nat.le_refl _⟩⟩,fun z1 z2 z3 z4 z5=>⟨0⟩,fun z1 z2 z3 z4 z5 z6=>⟨()⟩,fun z1 z2 z3 z4 z5 z6 z7=>⟨()⟩,fun z1 z2 z3 z4 z5 z6 z7 z8=>⟨0⟩,fun z1 z2 z3 z4 z5 z6 z7 z8 z9=>⟨()⟩,fun z1 z2 z3 z4 z5 z6 z7 z8 z9 z10=>⟨gd0⟩,fun z1 z2 z3 z4 z5 z6 z7 z8 z9 z10 z11=>trivial⟩ (by kernel_rfl)
theorem mjff (aF aC ls bd gd it l:Addr) (k:Nat → Tok) (x0 x1 x2 x3 x4 x5 x6 x7:Str) (t10:Tok) (i rm v w f f0:Int) (vs:List Value) (ys:List Str) (es es1:Array DictEntry) (e e1 e2:Nat) (GD:Array DictEntry → Prop) (gd0:{z:Array DictEntry × Nat // GD z.1}):Sg b P 191 [5,5,1,1,0,0,1,1,1,1,1,2,1,3,3,3,3,1,1,1,1,0,0,1,1,4,4,4,4,1,4,8,8,8,9,10,9,9,9,9,8,9,9,10,10,10,10,9,9,9,9,8,9,9,10,9,9,9,9,8,9,9,12,10,10,10,1,1,4,4,4] [0,1,0,1,0,1,0,1,0,1,0,1,0,1,0,1,0,1,0,0,0,0,0,0,0,0,0,0,0,1,0,0,0,0,1] (fl142I aF aC it) [(aF,(frm P [(J3,(k 0),(.ref ls)),(J0,(k 1),(.int rm (k 11))),(J2,(k 2),(.str x0 (k 12))),(J9,(k 3),(.ref gd)),(J13,(k 4),(.str x1 (k 14)))] 5)),(aC,(cel (some (.ref bd)))),(bd,(dob es e)),(gd,(dob es1 e1)),(it,(LI [(.ref l),(.int i 0)])),(l,(lst vs e2))] N T (.ask Unit ⟨(.builtin "list_iterator.__next__" ⟨[(.ref it)],[]⟩),0,0,[(it,(LI [(.ref l),(.int i 0)])),(l,(lst vs e2))],N,T⟩ [4,5] (fun z1=>⟨(.ret (.str x2 t10)),[(LI [(.ref l),(.int (i + 1) 0)]),(lst vs e2)],[],N,T⟩) fun z1=>.ask {z:Tok × Nat // @Nat.le ((T + 4)) z.2} ⟨(.builtin "str.replace" ⟨[(.str x1 (k 14)),(.str x2 t10),(.str J10 (T + 2)),(.int 1 (T + 3))],[]⟩),0,0,[],N,(T + 4)⟩ [] (fun z2=>⟨(.ret (.str x3 z2.1.1)),[],[],N,z2.1.2⟩) fun z2=>.ask {z:Tok × Nat // @Nat.le (z2.1.2) z.2} ⟨(.builtin "str.__add__" ⟨[(.str x3 z2.1.1),(.str x0 (k 12))],[]⟩),0,0,[],N,z2.1.2⟩ [] (fun z3=>⟨(.ret (.str x4 z3.1.1)),[],[],N,z3.1.2⟩) fun z3=>.ask {z:SZ // @Nat.le (z3.1.2) z.T ∧ TX z.vs ys} ⟨(.builtin "sorted" ⟨[(.str x4 z3.1.1)],[]⟩),0,0,[],N,z3.1.2⟩ [] (fun z4=>⟨(.ret (.ref z4.1.l)),[],[(z4.1.l,(lst z4.1.vs z4.1.e))],z4.1.N,z4.1.T⟩) fun z4=>.ask {z:Tok × Nat // @Nat.le (z4.1.T) z.2} ⟨(.builtin "str.join" ⟨[(.str J10 (T + 1)),(.ref z4.1.l)],[]⟩),0,0,[(z4.1.l,(lst z4.1.vs z4.1.e))],z4.1.N,z4.1.T⟩ [6] (fun z5=>⟨(.ret (.str x5 z5.1.1)),[(lst z4.1.vs z4.1.e)],[],z4.1.N,z5.1.2⟩) fun z5=>.ask Tok ⟨(.builtin "dict.__getitem__" ⟨[(.ref bd),(.str x1 (k 14))],[]⟩),0,0,[(bd,(dob es e))],z4.1.N,(z5.1.2 + 1)⟩ [2] (fun z6=>⟨(.ret (.int v z6)),[(dob es e)],[],z4.1.N,(z5.1.2 + 2)⟩) fun z6=>.ask Unit ⟨(.builtin "str.__gt__" ⟨[(.str x2 t10),(.str x0 (k 12))],[]⟩),0,0,[],z4.1.N,(z5.1.2 + 2)⟩ [] (fun z7=>⟨(.ret (.bool false)),[],[],z4.1.N,(z5.1.2 + 2)⟩) fun z7=>.ask Unit ⟨(.builtin "int.__add__" ⟨[(.int v z6),(.int 0 (z5.1.2 + 2))],[]⟩),0,0,[],z4.1.N,(z5.1.2 + 3)⟩ [] (fun z8=>⟨(.ret (.int f (z5.1.2 + 3))),[],[],z4.1.N,(z5.1.2 + 4)⟩) fun z8=>.ask Tok ⟨(.builtin "dict.get" ⟨[(.ref gd),(.str x5 z5.1.1),(.int 0 (z5.1.2 + 5))],[]⟩),0,0,[(gd,(dob es1 e1))],z4.1.N,(z5.1.2 + 6)⟩ [3] (fun z9=>⟨(.ret (.int w z9)),[(dob es1 e1)],[],z4.1.N,(z5.1.2 + 7)⟩) fun z9=>.ask Unit ⟨(.builtin "int.__gt__" ⟨[(.int w z9),(.int f (z5.1.2 + 3))],[]⟩),0,1,[],(z4.1.N + 3),(z5.1.2 + 7)⟩ [] (fun z10=>⟨(.ret (.bool false)),[],[],(z4.1.N + 3),(z5.1.2 + 7)⟩) fun z10=>.ask {z:Array DictEntry × Nat // GD z.1} ⟨(.builtin "dict.__setitem__" ⟨[(.ref gd),(.str x5 z5.1.1),(.int f (z5.1.2 + 3))],[]⟩),0,0,[(gd,(dob es1 e1))],(z4.1.N + 5),(z5.1.2 + 7)⟩ [3] (fun z11=>⟨(.ret .none),[(dob z11.1.1 z11.1.2)],[],(z4.1.N + 5),(z5.1.2 + 8)⟩) fun z11=>.fin (.ok (.again (fl142I aF aC it))) [(aF,(frm P [(J3,(k 0),(.ref ls)),(J0,(k 1),(.int rm (k 11))),(J2,(k 2),(.str x0 (k 12))),(J9,(k 3),(.ref gd)),(J13,(k 4),(.str x1 (k 14))),(J16,T,(.str x2 t10)),(J11,z5.1.2,(.str x5 z5.1.1)),(J1,(z5.1.2 + 4),(.int f (z5.1.2 + 3)))] 8)),(aC,(cel (some (.ref bd)))),(bd,(dob es e)),(gd,(dob z11.1.1 z11.1.2)),(it,(LI [(.ref l),(.int (i + 1) 0)])),(l,(lst vs e2)),(z4.1.l,(lst z4.1.vs z4.1.e)),(z4.1.N,(tup [(.int f (z5.1.2 + 3)),(.int w z9)] 0)),((z4.1.N + 1),(fds "tuple_iterator" [.none,(.int 2 0)])),((z4.1.N + 2),(lst [] 2)),((z4.1.N + 3),(tup [] 0)),((z4.1.N + 4),(fds "StopIteration" [(.ref (z4.1.N + 3)),.none,.none,.none,(.bool false),.none]))] (z4.1.N + 5) (z5.1.2 + 8)):=fx 11 ⟨⟨()⟩,fun z1=>⟨⟨(0,(T + 4)),Nat.le_refl _⟩⟩,fun z1 z2=>⟨⟨(0,z2.1.2),Nat.le_refl _⟩⟩,fun z1 z2 z3=>⟨⟨⟨0,_,0,0,z3.1.2⟩,Nat.le_refl _,tx_any ys⟩⟩,fun z1 z2 z3 z4=>⟨⟨(0,z4.1.T),Nat.le_refl _⟩⟩,fun z1 z2 z3 z4 z5=>⟨0⟩,fun z1 z2 z3 z4 z5 z6=>⟨()⟩,fun z1 z2 z3 z4 z5 z6 z7=>⟨()⟩,fun z1 z2 z3 z4 z5 z6 z7 z8=>⟨0⟩,fun z1 z2 z3 z4 z5 z6 z7 z8 z9=>⟨()⟩,fun z1 z2 z3 z4 z5 z6 z7 z8 z9 z10=>⟨gd0⟩,fun z1 z2 z3 z4 z5 z6 z7 z8 z9 z10 z11=>trivial⟩ (by kernel_rfl)
theorem miz (aF aC ls bd gd it l:Addr) (k:Nat → Tok) (x0 x1 x2 x3 x4 x5 x6 x7:Str) (t10:Tok) (i rm v w f f0:Int) (vs:List Value) (ys:List Str) (es es1:Array DictEntry) (e e1 e2:Nat) (GD:Array DictEntry → Prop) (gd0:{z:Array DictEntry × Nat // GD z.1}):Sg b P 12 [5,5,8] [0,1] (fl142I aF aC it) [(aF,(frm P [(J3,(k 0),(.ref ls)),(J0,(k 1),(.int rm (k 11))),(J2,(k 2),(.str x0 (k 12))),(J9,(k 3),(.ref gd)),(J13,(k 4),(.str x1 (k 14))),(J16,(k 5),(.str x6 (k 15))),(J11,(k 6),(.str x7 (k 16))),(J1,(k 7),(.int f0 (k 17)))] 8)),(aC,(cel (some (.ref bd)))),(bd,(dob es e)),(gd,(dob es1 e1)),(it,(LI [(.ref l),(.int i 0)])),(l,(lst vs e2))] N T (.ask Unit ⟨(.builtin "list_iterator.__next__" ⟨[(.ref it)],[]⟩),0,0,[(it,(LI [(.ref l),(.int i 0)])),(l,(lst vs e2))],N,T⟩ [4,5] (fun z1=>⟨(.err (.ref (N + 1))),[(LI [.none,(.int i 0)]),(lst vs e2)],[(N,(tup [] 0)),((N + 1),(fds "StopIteration" [(.ref N),.none,.none,.none,(.bool false),.none]))],(N + 2),T⟩) fun z1=>.fin (.ok (.again (bl142 aF aC))) [(aF,(frm P [(J3,(k 0),(.ref ls)),(J0,(k 1),(.int rm (k 11))),(J2,(k 2),(.str x0 (k 12))),(J9,(k 3),(.ref gd)),(J13,(k 4),(.str x1 (k 14))),(J16,(k 5),(.str x6 (k 15))),(J11,(k 6),(.str x7 (k 16))),(J1,(k 7),(.int f0 (k 17)))] 8)),(aC,(cel (some (.ref bd)))),(bd,(dob es e)),(gd,(dob es1 e1)),(it,(LI [.none,(.int i 0)])),(l,(lst vs e2)),(N,(tup [] 0)),((N + 1),(fds "StopIteration" [(.ref N),.none,.none,.none,(.bool false),.none]))] (N + 2) T):=fx 1 ⟨⟨()⟩,fun z1=>trivial⟩ (by kernel_rfl)
end
end Mine
end
section
namespace Mine
section
open PyProof.Rows PySem.Builtin PySem.Builtin.Str
theorem cmpIAdd (b:Bool) (P:Params) (N T:Nat) (x y:Int) (t u:Tok):(Fam.fin (.ok (.done (.ret (.int (x + y) T)))) [] N (T + 1)).Fits fun os=>run (cfg b P) 30 [] [] os (.builtin "int.__add__" ⟨[.int x t,.int y u],[]⟩) .base (Dq (.builtin "int.__add__" ⟨[.int x t,.int y u],[]⟩)) [] N T [] [] [] []:=⟨[],[],by cases b <;> kernel_rfl⟩
section
variable {w:World} {b:Bool} (O:(cfg b w.params).Ok PG w)
include O
theorem conIAdd {d u:Nat} {N T:Nat} {x y r:Int} {t u':Tok} (hr:x + y = r):CG w b d u (.builtin "int.__add__" ⟨[.int x t,.int y u'],[]⟩) [] N T (fun _:Unit=>⟨.ret (.int r T),[],[],N,T + 1⟩):=
  hr ▸ con_run O (cmpIAdd b w.params N T x y t u') rfl (rest:=[]) rfl rfl rfl rfl
theorem conSortedS {d u N T:Nat} {x:PySem.Str} {t:Tok} {ys:List PySem.Str} (h3:x.length ≤ 3) (ha:x.cps.all (· < 128) = true) (hy:sortW (chs x) = ys) :
    CG w b d u (.builtin "sorted" ⟨[.str x t],[]⟩) [] N T (fun z:{z:SZ // @Nat.le T z.T ∧ TX z.vs ys}=>⟨.ret (.ref z.1.l),[],[(z.1.l,lst z.1.vs z.1.e)],z.1.N,z.1.T⟩):=by
  refine coni fun A h g dr os G hz _ _ D hN hG=>?_
  obtain ⟨⟨cs⟩⟩:=x
  have g0:{z:List Value × Nat // TX z.1 ys}:=⟨(ys.map fun x=>.str x 0,0),tx_any ys⟩
  match cs,h3 with
  | [],_=>
    refine hG ?_
    refine code_run O hz (so0 b w.params N T 0 0 0 ys g0 t) D hN (HHx 2 ⟨⟨by decide,conSIter ha⟩,fun _=>⟨by decide,conSort (xs:=chs (sg [])) ⟨[],rfl,rfl⟩ (by simp [chs]) hy⟩,fun _ _=>trivial,fun _ z2=>?_⟩)
    intro h' D' hN'
    exact ⟨⟨⟨N + 4,z2.1.1,z2.1.2,N + 7,T + 0⟩,Nat.le_add_right _ _,z2.2⟩,rfl,aft_ix (q:=⟨.ret (.ref (N + 4)),[],[(N + 4,lst z2.1.1 z2.1.2)],N + 7,T + 0⟩) D' rfl hN' rfl [4] (by decide) rfl⟩
  | [c0],_=>
    refine hG ?_
    refine code_run O hz (so1 b w.params N T c0 0 0 ys g0 t) D hN (HHx 2 ⟨⟨by decide,conSIter ha⟩,fun _=>⟨by decide,conSort (xs:=chs (sg [c0])) ⟨[(sg [c0],T + 0)],rfl,rfl⟩ (by simp [chs]) hy⟩,fun _ _=>trivial,fun _ z2=>?_⟩)
    intro h' D' hN'
    exact ⟨⟨⟨N + 4,z2.1.1,z2.1.2,N + 7,T + 1⟩,Nat.le_add_right _ _,z2.2⟩,rfl,aft_ix (q:=⟨.ret (.ref (N + 4)),[],[(N + 4,lst z2.1.1 z2.1.2)],N + 7,T + 1⟩) D' rfl hN' rfl [4] (by decide) rfl⟩
  | [c0,c1],_=>
    refine hG ?_
    refine code_run O hz (so2 b w.params N T c0 c1 0 ys g0 t) D hN (HHx 2 ⟨⟨by decide,conSIter ha⟩,fun _=>⟨by decide,conSort (xs:=chs (sg [c0,c1])) ⟨[(sg [c0],T + 0),(sg [c1],T + 1)],rfl,rfl⟩ (by simp [chs]) hy⟩,fun _ _=>trivial,fun _ z2=>?_⟩)
    intro h' D' hN'
    exact ⟨⟨⟨N + 4,z2.1.1,z2.1.2,N + 7,T + 2⟩,Nat.le_add_right _ _,z2.2⟩,rfl,aft_ix (q:=⟨.ret (.ref (N + 4)),[],[(N + 4,lst z2.1.1 z2.1.2)],N + 7,T + 2⟩) D' rfl hN' rfl [4] (by decide) rfl⟩
  | [c0,c1,c2],_=>
    refine hG ?_
    refine code_run O hz (so3 b w.params N T c0 c1 c2 ys g0 t) D hN (HHx 2 ⟨⟨by decide,conSIter ha⟩,fun _=>⟨by decide,conSort (xs:=chs (sg [c0,c1,c2])) ⟨[(sg [c0],T + 0),(sg [c1],T + 1),(sg [c2],T + 2)],rfl,rfl⟩ (by simp [chs]) hy⟩,fun _ _=>trivial,fun _ z2=>?_⟩)
    intro h' D' hN'
    exact ⟨⟨⟨N + 4,z2.1.1,z2.1.2,N + 7,T + 3⟩,Nat.le_add_right _ _,z2.2⟩,rfl,aft_ix (q:=⟨.ret (.ref (N + 4)),[],[(N + 4,lst z2.1.1 z2.1.2)],N + 7,T + 3⟩) D' rfl hN' rfl [4] (by decide) rfl⟩
theorem conDItE {d u:Nat} {it a:Addr} {es:Array DictEntry} {e N T i:Nat} {j m:Int} {ns:List (PySem.Str × Int)} (hk:DK w es ns) (hj:j = i) (hm':m = (es.size:Nat)) (hv:ns[i]? = none) :
    CG w b d u (.builtin "dict_keyiterator.__next__" ⟨[.ref it],[]⟩) [(it,fds "dict_keyiterator" [.ref a,.int j 0,.int m 0,.int (e:Nat) 0]),(a,dob es e)] N T
      (fun _:Unit=>⟨.err (.ref (N + 1)),[fds "dict_keyiterator" [.none,.int j 0,.int m 0,.int (e:Nat) 0],dob es e],[(N,tup [] 0),(N + 1,fds "StopIteration" [.ref N,.none,.none,.none,.bool false,.none])],N + 2,T⟩):=by
  intro A s hz hd hu ht hh nd off hN hT
  obtain ⟨h,g,dr,T',os⟩:=s
  subst hN hT
  have D0:=rep_start (C:=cfg b w.params) ht hh nd off
  refine own_bi F.entry_dict_keyiterator_next ?_
  have ho:=hh _ (.head _)
  have hod:=hh _ (.tail _ (.head _))
  have hT':(⟨h,g,dr,T',os⟩:Shared).TypeIs (.ref it) "dict_keyiterator":=⟨_,ho,rfl⟩
  obtain ⟨kvs,h1,h2,h3,h4⟩:=hk
  have hge:es.size ≤ i:=by
    have:=h2.length
    have h5:ns.length ≤ i:=by simpa using hv
    have h6:=h4.len
    simp at this; omega
  refine wpOwn_bind (wpOwn_of_wpAny ?_)
  refine wpAny_pure ?_
  refine wpOwn_bind (wpOwn_of_wpAny ?_)
  refine wpAny_bind ?_
  first | refine wpAny_bind (wpAny_typeNameOfWhole_keyiter hT' (wpAny_pure ?_)) | refine wpAny_bind (wpAny_typeNameOf_keyiter hT' (wpAny_pure ?_))
  refine wpAny_bind (wpAny_fieldsOf ho rfl ?_)
  have hown:Builtin.Dict_items.ownsTuple "dict_keyiterator" = false:=by decide
  simp only [hown,Bool.false_eq_true,if_false]
  show wpAny _ _ (if (Value.ref a == Value.none) = true then _ else _) _ _ _
  rw [if_neg (show ¬ ((Value.ref a == Value.none) = true) from Bool.false_ne_true)]
  refine wpAny_bind (wpAny_pure ?_)
  refine wpAny_bind (wpAny_dictEntries hod rfl ?_)
  rw [if_neg (by rw [hm']; simp)]
  refine wpAny_bind (wpAny_pure ?_)
  refine wpAny_bind (wpAny_dictEpoch hod rfl ?_)
  rw [if_neg (by simp)]
  refine wpAny_pure ?_
  subst hj
  simp only [show ¬ ((i:Int) < 0) from by omega,if_false,Int.toNat_natCast,Array.getElem?_eq_none hge]
  refine wpOwn_bind (wpOwn_of_wpAny ?_)
  first | refine wpAny_bind (wpAny_typeNameOfWhole_keyiter hT' (wpAny_pure ?_)) | refine wpAny_bind (wpAny_typeNameOf_keyiter hT' (wpAny_pure ?_))
  refine own_run O hz (diE b w.params _ _ it a es i m e e) D0 rfl ?_
  intro h' D' hN'
  exact ⟨(),rfl,aft_ix (q:=⟨_,[fds "dict_keyiterator" [.none,.int i 0,.int m 0,.int (e:Nat) 0],dob es e],[(h.objs.size,tup [] 0),(h.objs.size + 1,fds "StopIteration" [.ref h.objs.size,.none,.none,.none,.bool false,.none])],h.objs.size + 2,_⟩) D' rfl hN' rfl [0,1] (by decide) rfl⟩
end
end
end Mine
end
section
namespace Mine
structure MI where
  es:Array DictEntry
  e:Nat
  i:Int
  k:Nat → Tok
  y1:Str
  y2:Str
  f:Int
  N:Nat
  T:Nat
section
open PyProof.Rows PySem.Builtin PySem.Builtin.Str
section
variable {w:World} {b:Bool} (O:(cfg b w.params).Ok PG w)
include O
theorem loop_mi {aF aC ls bd gd it l:Addr} {x0 x1:PySem.Str} {rm v:Int} {vs:List Value} {es:Array DictEntry} {e e2:Nat} {A:Around} {R:Result → Shared → Prop} {S:List Addr} {h₀:Heap} {g:Array GenState} {d:Drawn} {os:OsState}
    (hz:A.handled = none) (hd:A.depth ≤ 550) (hu:A.units ≤ 5500) {best:List (PySem.Str × Int)} (hbest:DK w es best) (hbv:lookI best x1 = some v) (hgd:(gd == sysModules) = false) (ps:List (PySem.Str × Tok)) (hvs:vs = ps.map fun p=>.str p.1 p.2) (want:List (PySem.Str × Int)) (T0:Nat)
    (hend:∀ i k y1 y2 f es1 e1 h N T,DK w es1 want → T0 ≤ T → Rep (cfg b w.params) S h₀ [(aF,frM8 w.params ls rm k x0 gd x1 y1 y2 f),(aC,cel (some (.ref bd))),(bd,dob es e),(gd,dob es1 e1),(it,fds "list_iterator" [.none,.int i 0]),(l,lst vs e2)] h → h.objs.size = N → R (.ok .next) ⟨h,g,d,T,os⟩) :
    ∀ (rest:List (PySem.Str × Tok)) (ii:Nat) (i:Int) (k:Nat → Tok) (y1 y2:PySem.Str) (f:Int) (es1:Array DictEntry) (e1:Nat) (ns:List (PySem.Str × Int)) (h:Heap) (N T:Nat),i = ii → ps.drop ii = rest → DK w es1 ns →
      innF v x1 x0 (rest.map (·.1)) ns = want → innOk v x1 x0 (rest.map (·.1)) ns = true → (∀ p ∈ rest,p.1.length = 0 ∨ (@Ne Nat p.2 0 ∧ @LT.lt Nat _ p.2 T)) → T0 ≤ T →
      Rep (cfg b w.params) S h₀ [(aF,frM8 w.params ls rm k x0 gd x1 y1 y2 f),(aC,cel (some (.ref bd))),(bd,dob es e),(gd,dob es1 e1),(it,fds "list_iterator" [.ref l,.int i 0]),(l,lst vs e2)] h → h.objs.size = N → codeAny (model PG w) A (fl142I aF aC it) R ⟨h,g,d,T,os⟩
  | [],ii,i,k,y1,y2,f,es1,e1,ns,h,N,T,hi,hr,hns,hw,hok,hp,hT,D,hN=>by
    have hv1:vs[ii]? = none:=by
      rw [List.drop_eq_nil_iff] at hr
      rw [hvs]; simpa using hr
    refine code_run O hz (miz b w.params N T aF aC ls bd gd it l k x0 x1 x0 x0 x0 x0 y1 y2 0 i rm v 0 0 f vs [] es es1 e e1 e2 (fun _=>True) ⟨(#[],0),trivial⟩) D hN (HHx 1 ⟨⟨by decide,conLItE O hi hv1⟩,fun _=>trivial,fun _=>?_⟩)
    intro h' D' hN' hq
    refine ⟨hq,block_nil (hend i k y1 y2 f es1 e1 h' _ _ ?_ hT (Rep.sub D') hN')⟩
    rw [← hw]; exact hns
  | p :: rest,ii,i,k,y1,y2,f,es1,e1,ns,h,N,T,hi,hr,hns,hw,hok,hp,hT,D,hN=>by
    have hv1:vs[ii]? = some (.str p.1 p.2):=by
      have:ps[ii]? = some p:=by
        have:=congrArg List.head? hr
        simpa using this
      rw [hvs,List.getElem?_map,this]; rfl
    have hr':ps.drop (ii + 1) = rest:=by
      have:=congrArg List.tail hr
      simpa using this
    have hp1:=hp p (.head _)
    have hok':=hok
    rw [List.map_cons,innOk,Bool.and_eq_true] at hok'
    obtain ⟨hok1,hok2⟩:=hok'
    unfold okI at hok1
    simp only [Bool.and_eq_true,decide_eq_true_eq,Bool.not_eq_true'] at hok1
    obtain ⟨⟨⟨⟨⟨⟨c1,c2⟩,c3⟩,c4⟩,c5⟩,c6⟩,c7⟩:=hok1
    have hs:sizeLine = 16777216:=by decide
    obtain ⟨es0,hes0⟩:∃ es',DK w es' (stepI v x1 x0 ns p.1):=dk_step hns _ _
    cases hg:sLt x0 p.1 with
    | true=>
      cases hm:decide ((lookI ns (keyS x1 p.1 x0)).getD 0 > v + 1) with
      | true=>
        have hst:storeI ns (keyS x1 p.1 x0) ((lookI ns (keyS x1 p.1 x0)).getD 0) = stepI v x1 x0 ns p.1:=by
          unfold stepI gtI
          rw [hg]
          simp only [if_true,if_false,Bool.false_eq_true]
          rw [if_pos (of_decide_eq_true hm)]
        refine code_run O hz (mitt b w.params N T aF aC ls bd gd it l k x0 x1 p.1 (repl1 x1 p.1) (catS (repl1 x1 p.1) x0) (keyS x1 p.1 x0) y1 y2 p.2 i rm v ((lookI ns (keyS x1 p.1 x0)).getD 0) (v + 1) f vs (sortW (chs (catS (repl1 x1 p.1) x0))) es es1 e e1 e2 (fun es'=>DK w es' (stepI v x1 x0 ns p.1)) ⟨(es0,0),hes0⟩) D hN
          (HHx 11 ⟨⟨by decide,conLIt hi hv1⟩,fun _=>⟨by decide,conRepl1 rfl c1 (by omega) (hp1.imp id fun q=>by refine ⟨q.1,?_,?_⟩ <;> (first | exact Nat.succ_ne_zero _ | (have:=q.2; exact Nat.ne_of_lt (Nat.lt_of_lt_of_le this (Nat.le_add_right _ _)))))⟩,fun _ z2=>⟨by decide,conAddS rfl (by omega)⟩,fun _ z2 z3=>⟨by decide,conSortedS O c3 c4 rfl⟩,fun _ z2 z3 z4=>⟨by decide,conJoin z4.2.2 rfl (by show (keyS x1 p.1 x0).length ≤ _; omega) c6⟩,fun _ z2 z3 z4 z5=>⟨by decide,conDGetI hbest hbv⟩,fun _ z2 z3 z4 z5 z6=>⟨by decide,conGt O hg⟩,fun _ z2 z3 z4 z5 z6 _=>⟨by decide,conIAdd O rfl⟩,fun _ z2 z3 z4 z5 z6 _ _=>⟨by decide,conDGet hgd hns rfl⟩,fun _ z2 z3 z4 z5 z6 _ _ z9=>⟨by decide,conIGt O hm⟩,fun _ z2 z3 z4 z5 z6 _ _ z9 _=>⟨by decide,(conDSet (n:=(lookI ns (keyS x1 p.1 x0)).getD 0) hns (by omega)).conv (fun z=>⟨⟨z.1,hst ▸ z.2⟩,rfl⟩)⟩,fun _ _ _ _ _ _ _ _ _ _ _=>trivial,fun _ z2 z3 z4 z5 z6 _ _ z9 _ z11=>?_⟩)
        intro h' D' hN' hq
        refine ⟨hq,?_⟩
        have t1:@LE.le Nat _ T z2.1.2:=Nat.le_trans (Nat.le_add_right T _) z2.2
        have t2:@LE.le Nat _ z2.1.2 z3.1.2:=z3.2
        have t3:@LE.le Nat _ z3.1.2 z4.1.T:=z4.2.1
        have t4:@LE.le Nat _ z4.1.T z5.1.2:=z5.2
        refine loop_mi hz hd hu hbest hbv hgd ps hvs want T0 hend rest (ii + 1) (i + 1) (fun j=>match j with | 15=>p.2 | 16=>z5.1.1 | 17=>z5.1.2 + 3 | j=>k j) p.1 (keyS x1 p.1 x0) _ z11.1.1 z11.1.2 (stepI v x1 x0 ns p.1) h' _ _ (by rw [hi]; rfl) hr' z11.2 hw hok2 (fun q hq'=>(hp q (.tail _ hq')).imp id fun a=>⟨a.1,by have:=a.2; show @LT.lt Nat _ q.2 (z5.1.2 + _); exact Nat.lt_of_lt_of_le this (by omega)⟩) (by omega) (Rep.sub D') hN'
      | false=>
        have hst:storeI ns (keyS x1 p.1 x0) (v + 1) = stepI v x1 x0 ns p.1:=by
          unfold stepI gtI
          rw [hg]
          simp only [if_true,if_false,Bool.false_eq_true]
          rw [if_neg (of_decide_eq_false hm)]
        refine code_run O hz (mitf b w.params N T aF aC ls bd gd it l k x0 x1 p.1 (repl1 x1 p.1) (catS (repl1 x1 p.1) x0) (keyS x1 p.1 x0) y1 y2 p.2 i rm v ((lookI ns (keyS x1 p.1 x0)).getD 0) (v + 1) f vs (sortW (chs (catS (repl1 x1 p.1) x0))) es es1 e e1 e2 (fun es'=>DK w es' (stepI v x1 x0 ns p.1)) ⟨(es0,0),hes0⟩) D hN
          (HHx 11 ⟨⟨by decide,conLIt hi hv1⟩,fun _=>⟨by decide,conRepl1 rfl c1 (by omega) (hp1.imp id fun q=>by refine ⟨q.1,?_,?_⟩ <;> (first | exact Nat.succ_ne_zero _ | (have:=q.2; exact Nat.ne_of_lt (Nat.lt_of_lt_of_le this (Nat.le_add_right _ _)))))⟩,fun _ z2=>⟨by decide,conAddS rfl (by omega)⟩,fun _ z2 z3=>⟨by decide,conSortedS O c3 c4 rfl⟩,fun _ z2 z3 z4=>⟨by decide,conJoin z4.2.2 rfl (by show (keyS x1 p.1 x0).length ≤ _; omega) c6⟩,fun _ z2 z3 z4 z5=>⟨by decide,conDGetI hbest hbv⟩,fun _ z2 z3 z4 z5 z6=>⟨by decide,conGt O hg⟩,fun _ z2 z3 z4 z5 z6 _=>⟨by decide,conIAdd O rfl⟩,fun _ z2 z3 z4 z5 z6 _ _=>⟨by decide,conDGet hgd hns rfl⟩,fun _ z2 z3 z4 z5 z6 _ _ z9=>⟨by decide,conIGt O hm⟩,fun _ z2 z3 z4 z5 z6 _ _ z9 _=>⟨by decide,(conDSet (n:=v + 1) hns (by omega)).conv (fun z=>⟨⟨z.1,hst ▸ z.2⟩,rfl⟩)⟩,fun _ _ _ _ _ _ _ _ _ _ _=>trivial,fun _ z2 z3 z4 z5 z6 _ _ z9 _ z11=>?_⟩)
        intro h' D' hN' hq
        refine ⟨hq,?_⟩
        have t1:@LE.le Nat _ T z2.1.2:=Nat.le_trans (Nat.le_add_right T _) z2.2
        have t2:@LE.le Nat _ z2.1.2 z3.1.2:=z3.2
        have t3:@LE.le Nat _ z3.1.2 z4.1.T:=z4.2.1
        have t4:@LE.le Nat _ z4.1.T z5.1.2:=z5.2
        refine loop_mi hz hd hu hbest hbv hgd ps hvs want T0 hend rest (ii + 1) (i + 1) (fun j=>match j with | 15=>p.2 | 16=>z5.1.1 | 17=>z5.1.2 + 3 | j=>k j) p.1 (keyS x1 p.1 x0) _ z11.1.1 z11.1.2 (stepI v x1 x0 ns p.1) h' _ _ (by rw [hi]; rfl) hr' z11.2 hw hok2 (fun q hq'=>(hp q (.tail _ hq')).imp id fun a=>⟨a.1,by have:=a.2; show @LT.lt Nat _ q.2 (z5.1.2 + _); exact Nat.lt_of_lt_of_le this (by omega)⟩) (by omega) (Rep.sub D') hN'
    | false=>
      cases hm:decide ((lookI ns (keyS x1 p.1 x0)).getD 0 > v + 0) with
      | true=>
        have hst:storeI ns (keyS x1 p.1 x0) ((lookI ns (keyS x1 p.1 x0)).getD 0) = stepI v x1 x0 ns p.1:=by
          unfold stepI gtI
          rw [hg]
          simp only [if_true,if_false,Bool.false_eq_true]
          rw [if_pos (of_decide_eq_true hm)]
        refine code_run O hz (mift b w.params N T aF aC ls bd gd it l k x0 x1 p.1 (repl1 x1 p.1) (catS (repl1 x1 p.1) x0) (keyS x1 p.1 x0) y1 y2 p.2 i rm v ((lookI ns (keyS x1 p.1 x0)).getD 0) (v + 0) f vs (sortW (chs (catS (repl1 x1 p.1) x0))) es es1 e e1 e2 (fun es'=>DK w es' (stepI v x1 x0 ns p.1)) ⟨(es0,0),hes0⟩) D hN
          (HHx 11 ⟨⟨by decide,conLIt hi hv1⟩,fun _=>⟨by decide,conRepl1 rfl c1 (by omega) (hp1.imp id fun q=>by refine ⟨q.1,?_,?_⟩ <;> (first | exact Nat.succ_ne_zero _ | (have:=q.2; exact Nat.ne_of_lt (Nat.lt_of_lt_of_le this (Nat.le_add_right _ _)))))⟩,fun _ z2=>⟨by decide,conAddS rfl (by omega)⟩,fun _ z2 z3=>⟨by decide,conSortedS O c3 c4 rfl⟩,fun _ z2 z3 z4=>⟨by decide,conJoin z4.2.2 rfl (by show (keyS x1 p.1 x0).length ≤ _; omega) c6⟩,fun _ z2 z3 z4 z5=>⟨by decide,conDGetI hbest hbv⟩,fun _ z2 z3 z4 z5 z6=>⟨by decide,conGt O hg⟩,fun _ z2 z3 z4 z5 z6 _=>⟨by decide,conIAdd O rfl⟩,fun _ z2 z3 z4 z5 z6 _ _=>⟨by decide,conDGet hgd hns rfl⟩,fun _ z2 z3 z4 z5 z6 _ _ z9=>⟨by decide,conIGt O hm⟩,fun _ z2 z3 z4 z5 z6 _ _ z9 _=>⟨by decide,(conDSet (n:=(lookI ns (keyS x1 p.1 x0)).getD 0) hns (by omega)).conv (fun z=>⟨⟨z.1,hst ▸ z.2⟩,rfl⟩)⟩,fun _ _ _ _ _ _ _ _ _ _ _=>trivial,fun _ z2 z3 z4 z5 z6 _ _ z9 _ z11=>?_⟩)
        intro h' D' hN' hq
        refine ⟨hq,?_⟩
        have t1:@LE.le Nat _ T z2.1.2:=Nat.le_trans (Nat.le_add_right T _) z2.2
        have t2:@LE.le Nat _ z2.1.2 z3.1.2:=z3.2
        have t3:@LE.le Nat _ z3.1.2 z4.1.T:=z4.2.1
        have t4:@LE.le Nat _ z4.1.T z5.1.2:=z5.2
        refine loop_mi hz hd hu hbest hbv hgd ps hvs want T0 hend rest (ii + 1) (i + 1) (fun j=>match j with | 15=>p.2 | 16=>z5.1.1 | 17=>z5.1.2 + 3 | j=>k j) p.1 (keyS x1 p.1 x0) _ z11.1.1 z11.1.2 (stepI v x1 x0 ns p.1) h' _ _ (by rw [hi]; rfl) hr' z11.2 hw hok2 (fun q hq'=>(hp q (.tail _ hq')).imp id fun a=>⟨a.1,by have:=a.2; show @LT.lt Nat _ q.2 (z5.1.2 + _); exact Nat.lt_of_lt_of_le this (by omega)⟩) (by omega) (Rep.sub D') hN'
      | false=>
        have hst:storeI ns (keyS x1 p.1 x0) (v + 0) = stepI v x1 x0 ns p.1:=by
          unfold stepI gtI
          rw [hg]
          simp only [if_true,if_false,Bool.false_eq_true]
          rw [if_neg (of_decide_eq_false hm)]
        refine code_run O hz (miff b w.params N T aF aC ls bd gd it l k x0 x1 p.1 (repl1 x1 p.1) (catS (repl1 x1 p.1) x0) (keyS x1 p.1 x0) y1 y2 p.2 i rm v ((lookI ns (keyS x1 p.1 x0)).getD 0) (v + 0) f vs (sortW (chs (catS (repl1 x1 p.1) x0))) es es1 e e1 e2 (fun es'=>DK w es' (stepI v x1 x0 ns p.1)) ⟨(es0,0),hes0⟩) D hN
          (HHx 11 ⟨⟨by decide,conLIt hi hv1⟩,fun _=>⟨by decide,conRepl1 rfl c1 (by omega) (hp1.imp id fun q=>by refine ⟨q.1,?_,?_⟩ <;> (first | exact Nat.succ_ne_zero _ | (have:=q.2; exact Nat.ne_of_lt (Nat.lt_of_lt_of_le this (Nat.le_add_right _ _)))))⟩,fun _ z2=>⟨by decide,conAddS rfl (by omega)⟩,fun _ z2 z3=>⟨by decide,conSortedS O c3 c4 rfl⟩,fun _ z2 z3 z4=>⟨by decide,conJoin z4.2.2 rfl (by show (keyS x1 p.1 x0).length ≤ _; omega) c6⟩,fun _ z2 z3 z4 z5=>⟨by decide,conDGetI hbest hbv⟩,fun _ z2 z3 z4 z5 z6=>⟨by decide,conGt O hg⟩,fun _ z2 z3 z4 z5 z6 _=>⟨by decide,conIAdd O rfl⟩,fun _ z2 z3 z4 z5 z6 _ _=>⟨by decide,conDGet hgd hns rfl⟩,fun _ z2 z3 z4 z5 z6 _ _ z9=>⟨by decide,conIGt O hm⟩,fun _ z2 z3 z4 z5 z6 _ _ z9 _=>⟨by decide,(conDSet (n:=v + 0) hns (by omega)).conv (fun z=>⟨⟨z.1,hst ▸ z.2⟩,rfl⟩)⟩,fun _ _ _ _ _ _ _ _ _ _ _=>trivial,fun _ z2 z3 z4 z5 z6 _ _ z9 _ z11=>?_⟩)
        intro h' D' hN' hq
        refine ⟨hq,?_⟩
        have t1:@LE.le Nat _ T z2.1.2:=Nat.le_trans (Nat.le_add_right T _) z2.2
        have t2:@LE.le Nat _ z2.1.2 z3.1.2:=z3.2
        have t3:@LE.le Nat _ z3.1.2 z4.1.T:=z4.2.1
        have t4:@LE.le Nat _ z4.1.T z5.1.2:=z5.2
        refine loop_mi hz hd hu hbest hbv hgd ps hvs want T0 hend rest (ii + 1) (i + 1) (fun j=>match j with | 15=>p.2 | 16=>z5.1.1 | 17=>z5.1.2 + 3 | j=>k j) p.1 (keyS x1 p.1 x0) _ z11.1.1 z11.1.2 (stepI v x1 x0 ns p.1) h' _ _ (by rw [hi]; rfl) hr' z11.2 hw hok2 (fun q hq'=>(hp q (.tail _ hq')).imp id fun a=>⟨a.1,by have:=a.2; show @LT.lt Nat _ q.2 (z5.1.2 + _); exact Nat.lt_of_lt_of_le this (by omega)⟩) (by omega) (Rep.sub D') hN'
theorem con_mi8 {aF aC ls bd gd it l:Addr} {x0 x1:PySem.Str} {rm v:Int} {vs:List Value} {es es1:Array DictEntry} {e e1 e2 N T:Nat} {k:Nat → Tok} {y1 y2:PySem.Str} {f:Int} {best:List (PySem.Str × Int)} (hbest:DK w es best) (hbv:lookI best x1 = some v) (hgd:(gd == sysModules) = false) (ps:List (PySem.Str × Tok)) (hvs:vs = ps.map fun p=>.str p.1 p.2) {want ns:List (PySem.Str × Int)} (hns:DK w es1 ns)
    (hw:innF v x1 x0 (ps.map (·.1)) ns = want) (hok:innOk v x1 x0 (ps.map (·.1)) ns = true) (hp:∀ p ∈ ps,p.1.length = 0 ∨ (@Ne Nat p.2 0 ∧ @LT.lt Nat _ p.2 T)) :
    CG w b 550 5500 (fl142I aF aC it) [(aF,frM8 w.params ls rm k x0 gd x1 y1 y2 f),(aC,cel (some (.ref bd))),(bd,dob es e),(gd,dob es1 e1),(it,fds "list_iterator" [.ref l,.int 0 0]),(l,lst vs e2)] N T
      (fun z:{z:MI // DK w z.es want ∧ @LE.le Nat _ T z.T}=>⟨.next,[frM8 w.params ls rm z.1.k x0 gd x1 z.1.y1 z.1.y2 z.1.f,cel (some (.ref bd)),dob es e,dob z.1.es z.1.e,fds "list_iterator" [.none,.int z.1.i 0],lst vs e2],[],z.1.N,z.1.T⟩):=by
  refine coni fun A h g dr os G hz hd hu D hN hG=>?_
  refine hG ?_
  refine loop_mi O hz hd hu hbest hbv hgd ps hvs want T ?_ ps 0 0 k y1 y2 f es1 e1 ns h N T rfl rfl hns hw hok hp (Nat.le_refl _) D hN
  intro i' k' y1' y2' f' es' e1' h'' N' T' hk' hT' D'' hN''
  exact ⟨⟨⟨es',e1',i',k',y1',y2',f',N',T'⟩,hk',hT'⟩,rfl,aft_plain (q:=⟨.next,[frM8 w.params ls rm k' x0 gd x1 y1' y2' f',cel (some (.ref bd)),dob es e,dob es' e1',fds "list_iterator" [.none,.int i' 0],lst vs e2],[],N',T'⟩) D'' rfl hN'' rfl⟩
theorem con_mi5 {aF aC ls bd gd it l:Addr} {x0 x1:PySem.Str} {rm v:Int} {vs:List Value} {es es1:Array DictEntry} {e e1 e2 N T:Nat} {k:Nat → Tok} {best:List (PySem.Str × Int)} (hbest:DK w es best) (hbv:lookI best x1 = some v) (hgd:(gd == sysModules) = false) (ps:List (PySem.Str × Tok)) (hvs:vs = ps.map fun p=>.str p.1 p.2) {want ns:List (PySem.Str × Int)} (hns:DK w es1 ns)
    (hw:innF v x1 x0 (ps.map (·.1)) ns = want) (hok:innOk v x1 x0 (ps.map (·.1)) ns = true) (hp:∀ p ∈ ps,p.1.length = 0 ∨ (@Ne Nat p.2 0 ∧ @LT.lt Nat _ p.2 T)) (h0:ps ≠ []) :
    CG w b 550 5500 (fl142I aF aC it) [(aF,frM5 w.params ls rm k x0 gd x1),(aC,cel (some (.ref bd))),(bd,dob es e),(gd,dob es1 e1),(it,fds "list_iterator" [.ref l,.int 0 0]),(l,lst vs e2)] N T
      (fun z:{z:MI // DK w z.es want ∧ @LE.le Nat _ T z.T}=>⟨.next,[frM8 w.params ls rm z.1.k x0 gd x1 z.1.y1 z.1.y2 z.1.f,cel (some (.ref bd)),dob es e,dob z.1.es z.1.e,fds "list_iterator" [.none,.int z.1.i 0],lst vs e2],[],z.1.N,z.1.T⟩):=by
  refine coni fun A h g dr os G hz hd hu D hN hG=>?_
  cases ps with
  | nil=>exact absurd rfl h0
  | cons p rest=>
    have hv1:vs[0]? = some (.str p.1 p.2):=by rw [hvs]; rfl
    have hp1:=hp p (.head _)
    have hi:(0:Int) = ((0:Nat):Int):=rfl
    have hok':=hok
    rw [List.map_cons,innOk,Bool.and_eq_true] at hok'
    obtain ⟨hok1,hok2⟩:=hok'
    unfold okI at hok1
    simp only [Bool.and_eq_true,decide_eq_true_eq,Bool.not_eq_true'] at hok1
    obtain ⟨⟨⟨⟨⟨⟨c1,c2⟩,c3⟩,c4⟩,c5⟩,c6⟩,c7⟩:=hok1
    have hs:sizeLine = 16777216:=by decide
    obtain ⟨es0,hes0⟩:∃ es',DK w es' (stepI v x1 x0 ns p.1):=dk_step hns _ _
    cases hg:sLt x0 p.1 with
    | true=>
      cases hm:decide ((lookI ns (keyS x1 p.1 x0)).getD 0 > v + 1) with
      | true=>
        have hst:storeI ns (keyS x1 p.1 x0) ((lookI ns (keyS x1 p.1 x0)).getD 0) = stepI v x1 x0 ns p.1:=by
          unfold stepI gtI
          rw [hg]
          simp only [if_true,if_false,Bool.false_eq_true]
          rw [if_pos (of_decide_eq_true hm)]
        refine hG ?_
        refine code_run O hz (mjtt b w.params N T aF aC ls bd gd it l k x0 x1 p.1 (repl1 x1 p.1) (catS (repl1 x1 p.1) x0) (keyS x1 p.1 x0) x0 x0 p.2 0 rm v ((lookI ns (keyS x1 p.1 x0)).getD 0) (v + 1) 0 vs (sortW (chs (catS (repl1 x1 p.1) x0))) es es1 e e1 e2 (fun es'=>DK w es' (stepI v x1 x0 ns p.1)) ⟨(es0,0),hes0⟩) D hN
          (HHx 11 ⟨⟨by decide,conLIt hi hv1⟩,fun _=>⟨by decide,conRepl1 rfl c1 (by omega) (hp1.imp id fun q=>by refine ⟨q.1,?_,?_⟩ <;> (first | exact Nat.succ_ne_zero _ | (have:=q.2; exact Nat.ne_of_lt (Nat.lt_of_lt_of_le this (Nat.le_add_right _ _)))))⟩,fun _ z2=>⟨by decide,conAddS rfl (by omega)⟩,fun _ z2 z3=>⟨by decide,conSortedS O c3 c4 rfl⟩,fun _ z2 z3 z4=>⟨by decide,conJoin z4.2.2 rfl (by show (keyS x1 p.1 x0).length ≤ _; omega) c6⟩,fun _ z2 z3 z4 z5=>⟨by decide,conDGetI hbest hbv⟩,fun _ z2 z3 z4 z5 z6=>⟨by decide,conGt O hg⟩,fun _ z2 z3 z4 z5 z6 _=>⟨by decide,conIAdd O rfl⟩,fun _ z2 z3 z4 z5 z6 _ _=>⟨by decide,conDGet hgd hns rfl⟩,fun _ z2 z3 z4 z5 z6 _ _ z9=>⟨by decide,conIGt O hm⟩,fun _ z2 z3 z4 z5 z6 _ _ z9 _=>⟨by decide,(conDSet (n:=(lookI ns (keyS x1 p.1 x0)).getD 0) hns (by omega)).conv (fun z=>⟨⟨z.1,hst ▸ z.2⟩,rfl⟩)⟩,fun _ _ _ _ _ _ _ _ _ _ _=>trivial,fun _ z2 z3 z4 z5 z6 _ _ z9 _ z11=>?_⟩)
        intro h' D' hN' hq
        refine ⟨hq,?_⟩
        have t1:@LE.le Nat _ T z2.1.2:=Nat.le_trans (Nat.le_add_right T _) z2.2
        have t2:@LE.le Nat _ z2.1.2 z3.1.2:=z3.2
        have t3:@LE.le Nat _ z3.1.2 z4.1.T:=z4.2.1
        have t4:@LE.le Nat _ z4.1.T z5.1.2:=z5.2
        refine loop_mi O hz hd hu hbest hbv hgd (p :: rest) hvs want T ?_ rest 1 (0 + 1) (fun j=>match j with | 5=>T | 6=>z5.1.2 | 7=>z5.1.2 + 4 | 15=>p.2 | 16=>z5.1.1 | 17=>z5.1.2 + 3 | j=>k j) p.1 (keyS x1 p.1 x0) _ z11.1.1 z11.1.2 (stepI v x1 x0 ns p.1) h' _ _ rfl rfl z11.2 hw hok2 (fun q hq'=>(hp q (.tail _ hq')).imp id fun a=>⟨a.1,by have:=a.2; show @LT.lt Nat _ q.2 (z5.1.2 + _); exact Nat.lt_of_lt_of_le this (by omega)⟩) (by omega) (Rep.sub D') hN'
        intro i' k' y1' y2' f' es' e1' h'' N' T' hk' hT' D'' hN''
        exact ⟨⟨⟨es',e1',i',k',y1',y2',f',N',T'⟩,hk',hT'⟩,rfl,aft_plain (q:=⟨.next,[frM8 w.params ls rm k' x0 gd x1 y1' y2' f',cel (some (.ref bd)),dob es e,dob es' e1',fds "list_iterator" [.none,.int i' 0],lst vs e2],[],N',T'⟩) D'' rfl hN'' rfl⟩
      | false=>
        have hst:storeI ns (keyS x1 p.1 x0) (v + 1) = stepI v x1 x0 ns p.1:=by
          unfold stepI gtI
          rw [hg]
          simp only [if_true,if_false,Bool.false_eq_true]
          rw [if_neg (of_decide_eq_false hm)]
        refine hG ?_
        refine code_run O hz (mjtf b w.params N T aF aC ls bd gd it l k x0 x1 p.1 (repl1 x1 p.1) (catS (repl1 x1 p.1) x0) (keyS x1 p.1 x0) x0 x0 p.2 0 rm v ((lookI ns (keyS x1 p.1 x0)).getD 0) (v + 1) 0 vs (sortW (chs (catS (repl1 x1 p.1) x0))) es es1 e e1 e2 (fun es'=>DK w es' (stepI v x1 x0 ns p.1)) ⟨(es0,0),hes0⟩) D hN
          (HHx 11 ⟨⟨by decide,conLIt hi hv1⟩,fun _=>⟨by decide,conRepl1 rfl c1 (by omega) (hp1.imp id fun q=>by refine ⟨q.1,?_,?_⟩ <;> (first | exact Nat.succ_ne_zero _ | (have:=q.2; exact Nat.ne_of_lt (Nat.lt_of_lt_of_le this (Nat.le_add_right _ _)))))⟩,fun _ z2=>⟨by decide,conAddS rfl (by omega)⟩,fun _ z2 z3=>⟨by decide,conSortedS O c3 c4 rfl⟩,fun _ z2 z3 z4=>⟨by decide,conJoin z4.2.2 rfl (by show (keyS x1 p.1 x0).length ≤ _; omega) c6⟩,fun _ z2 z3 z4 z5=>⟨by decide,conDGetI hbest hbv⟩,fun _ z2 z3 z4 z5 z6=>⟨by decide,conGt O hg⟩,fun _ z2 z3 z4 z5 z6 _=>⟨by decide,conIAdd O rfl⟩,fun _ z2 z3 z4 z5 z6 _ _=>⟨by decide,conDGet hgd hns rfl⟩,fun _ z2 z3 z4 z5 z6 _ _ z9=>⟨by decide,conIGt O hm⟩,fun _ z2 z3 z4 z5 z6 _ _ z9 _=>⟨by decide,(conDSet (n:=v + 1) hns (by omega)).conv (fun z=>⟨⟨z.1,hst ▸ z.2⟩,rfl⟩)⟩,fun _ _ _ _ _ _ _ _ _ _ _=>trivial,fun _ z2 z3 z4 z5 z6 _ _ z9 _ z11=>?_⟩)
        intro h' D' hN' hq
        refine ⟨hq,?_⟩
        have t1:@LE.le Nat _ T z2.1.2:=Nat.le_trans (Nat.le_add_right T _) z2.2
        have t2:@LE.le Nat _ z2.1.2 z3.1.2:=z3.2
        have t3:@LE.le Nat _ z3.1.2 z4.1.T:=z4.2.1
        have t4:@LE.le Nat _ z4.1.T z5.1.2:=z5.2
        refine loop_mi O hz hd hu hbest hbv hgd (p :: rest) hvs want T ?_ rest 1 (0 + 1) (fun j=>match j with | 5=>T | 6=>z5.1.2 | 7=>z5.1.2 + 4 | 15=>p.2 | 16=>z5.1.1 | 17=>z5.1.2 + 3 | j=>k j) p.1 (keyS x1 p.1 x0) _ z11.1.1 z11.1.2 (stepI v x1 x0 ns p.1) h' _ _ rfl rfl z11.2 hw hok2 (fun q hq'=>(hp q (.tail _ hq')).imp id fun a=>⟨a.1,by have:=a.2; show @LT.lt Nat _ q.2 (z5.1.2 + _); exact Nat.lt_of_lt_of_le this (by omega)⟩) (by omega) (Rep.sub D') hN'
        intro i' k' y1' y2' f' es' e1' h'' N' T' hk' hT' D'' hN''
        exact ⟨⟨⟨es',e1',i',k',y1',y2',f',N',T'⟩,hk',hT'⟩,rfl,aft_plain (q:=⟨.next,[frM8 w.params ls rm k' x0 gd x1 y1' y2' f',cel (some (.ref bd)),dob es e,dob es' e1',fds "list_iterator" [.none,.int i' 0],lst vs e2],[],N',T'⟩) D'' rfl hN'' rfl⟩
    | false=>
      cases hm:decide ((lookI ns (keyS x1 p.1 x0)).getD 0 > v + 0) with
      | true=>
        have hst:storeI ns (keyS x1 p.1 x0) ((lookI ns (keyS x1 p.1 x0)).getD 0) = stepI v x1 x0 ns p.1:=by
          unfold stepI gtI
          rw [hg]
          simp only [if_true,if_false,Bool.false_eq_true]
          rw [if_pos (of_decide_eq_true hm)]
        refine hG ?_
        refine code_run O hz (mjft b w.params N T aF aC ls bd gd it l k x0 x1 p.1 (repl1 x1 p.1) (catS (repl1 x1 p.1) x0) (keyS x1 p.1 x0) x0 x0 p.2 0 rm v ((lookI ns (keyS x1 p.1 x0)).getD 0) (v + 0) 0 vs (sortW (chs (catS (repl1 x1 p.1) x0))) es es1 e e1 e2 (fun es'=>DK w es' (stepI v x1 x0 ns p.1)) ⟨(es0,0),hes0⟩) D hN
          (HHx 11 ⟨⟨by decide,conLIt hi hv1⟩,fun _=>⟨by decide,conRepl1 rfl c1 (by omega) (hp1.imp id fun q=>by refine ⟨q.1,?_,?_⟩ <;> (first | exact Nat.succ_ne_zero _ | (have:=q.2; exact Nat.ne_of_lt (Nat.lt_of_lt_of_le this (Nat.le_add_right _ _)))))⟩,fun _ z2=>⟨by decide,conAddS rfl (by omega)⟩,fun _ z2 z3=>⟨by decide,conSortedS O c3 c4 rfl⟩,fun _ z2 z3 z4=>⟨by decide,conJoin z4.2.2 rfl (by show (keyS x1 p.1 x0).length ≤ _; omega) c6⟩,fun _ z2 z3 z4 z5=>⟨by decide,conDGetI hbest hbv⟩,fun _ z2 z3 z4 z5 z6=>⟨by decide,conGt O hg⟩,fun _ z2 z3 z4 z5 z6 _=>⟨by decide,conIAdd O rfl⟩,fun _ z2 z3 z4 z5 z6 _ _=>⟨by decide,conDGet hgd hns rfl⟩,fun _ z2 z3 z4 z5 z6 _ _ z9=>⟨by decide,conIGt O hm⟩,fun _ z2 z3 z4 z5 z6 _ _ z9 _=>⟨by decide,(conDSet (n:=(lookI ns (keyS x1 p.1 x0)).getD 0) hns (by omega)).conv (fun z=>⟨⟨z.1,hst ▸ z.2⟩,rfl⟩)⟩,fun _ _ _ _ _ _ _ _ _ _ _=>trivial,fun _ z2 z3 z4 z5 z6 _ _ z9 _ z11=>?_⟩)
        intro h' D' hN' hq
        refine ⟨hq,?_⟩
        have t1:@LE.le Nat _ T z2.1.2:=Nat.le_trans (Nat.le_add_right T _) z2.2
        have t2:@LE.le Nat _ z2.1.2 z3.1.2:=z3.2
        have t3:@LE.le Nat _ z3.1.2 z4.1.T:=z4.2.1
        have t4:@LE.le Nat _ z4.1.T z5.1.2:=z5.2
        refine loop_mi O hz hd hu hbest hbv hgd (p :: rest) hvs want T ?_ rest 1 (0 + 1) (fun j=>match j with | 5=>T | 6=>z5.1.2 | 7=>z5.1.2 + 4 | 15=>p.2 | 16=>z5.1.1 | 17=>z5.1.2 + 3 | j=>k j) p.1 (keyS x1 p.1 x0) _ z11.1.1 z11.1.2 (stepI v x1 x0 ns p.1) h' _ _ rfl rfl z11.2 hw hok2 (fun q hq'=>(hp q (.tail _ hq')).imp id fun a=>⟨a.1,by have:=a.2; show @LT.lt Nat _ q.2 (z5.1.2 + _); exact Nat.lt_of_lt_of_le this (by omega)⟩) (by omega) (Rep.sub D') hN'
        intro i' k' y1' y2' f' es' e1' h'' N' T' hk' hT' D'' hN''
        exact ⟨⟨⟨es',e1',i',k',y1',y2',f',N',T'⟩,hk',hT'⟩,rfl,aft_plain (q:=⟨.next,[frM8 w.params ls rm k' x0 gd x1 y1' y2' f',cel (some (.ref bd)),dob es e,dob es' e1',fds "list_iterator" [.none,.int i' 0],lst vs e2],[],N',T'⟩) D'' rfl hN'' rfl⟩
      | false=>
        have hst:storeI ns (keyS x1 p.1 x0) (v + 0) = stepI v x1 x0 ns p.1:=by
          unfold stepI gtI
          rw [hg]
          simp only [if_true,if_false,Bool.false_eq_true]
          rw [if_neg (of_decide_eq_false hm)]
        refine hG ?_
        refine code_run O hz (mjff b w.params N T aF aC ls bd gd it l k x0 x1 p.1 (repl1 x1 p.1) (catS (repl1 x1 p.1) x0) (keyS x1 p.1 x0) x0 x0 p.2 0 rm v ((lookI ns (keyS x1 p.1 x0)).getD 0) (v + 0) 0 vs (sortW (chs (catS (repl1 x1 p.1) x0))) es es1 e e1 e2 (fun es'=>DK w es' (stepI v x1 x0 ns p.1)) ⟨(es0,0),hes0⟩) D hN
          (HHx 11 ⟨⟨by decide,conLIt hi hv1⟩,fun _=>⟨by decide,conRepl1 rfl c1 (by omega) (hp1.imp id fun q=>by refine ⟨q.1,?_,?_⟩ <;> (first | exact Nat.succ_ne_zero _ | (have:=q.2; exact Nat.ne_of_lt (Nat.lt_of_lt_of_le this (Nat.le_add_right _ _)))))⟩,fun _ z2=>⟨by decide,conAddS rfl (by omega)⟩,fun _ z2 z3=>⟨by decide,conSortedS O c3 c4 rfl⟩,fun _ z2 z3 z4=>⟨by decide,conJoin z4.2.2 rfl (by show (keyS x1 p.1 x0).length ≤ _; omega) c6⟩,fun _ z2 z3 z4 z5=>⟨by decide,conDGetI hbest hbv⟩,fun _ z2 z3 z4 z5 z6=>⟨by decide,conGt O hg⟩,fun _ z2 z3 z4 z5 z6 _=>⟨by decide,conIAdd O rfl⟩,fun _ z2 z3 z4 z5 z6 _ _=>⟨by decide,conDGet hgd hns rfl⟩,fun _ z2 z3 z4 z5 z6 _ _ z9=>⟨by decide,conIGt O hm⟩,fun _ z2 z3 z4 z5 z6 _ _ z9 _=>⟨by decide,(conDSet (n:=v + 0) hns (by omega)).conv (fun z=>⟨⟨z.1,hst ▸ z.2⟩,rfl⟩)⟩,fun _ _ _ _ _ _ _ _ _ _ _=>trivial,fun _ z2 z3 z4 z5 z6 _ _ z9 _ z11=>?_⟩)
        intro h' D' hN' hq
        refine ⟨hq,?_⟩
        have t1:@LE.le Nat _ T z2.1.2:=Nat.le_trans (Nat.le_add_right T _) z2.2
        have t2:@LE.le Nat _ z2.1.2 z3.1.2:=z3.2
        have t3:@LE.le Nat _ z3.1.2 z4.1.T:=z4.2.1
        have t4:@LE.le Nat _ z4.1.T z5.1.2:=z5.2
        refine loop_mi O hz hd hu hbest hbv hgd (p :: rest) hvs want T ?_ rest 1 (0 + 1) (fun j=>match j with | 5=>T | 6=>z5.1.2 | 7=>z5.1.2 + 4 | 15=>p.2 | 16=>z5.1.1 | 17=>z5.1.2 + 3 | j=>k j) p.1 (keyS x1 p.1 x0) _ z11.1.1 z11.1.2 (stepI v x1 x0 ns p.1) h' _ _ rfl rfl z11.2 hw hok2 (fun q hq'=>(hp q (.tail _ hq')).imp id fun a=>⟨a.1,by have:=a.2; show @LT.lt Nat _ q.2 (z5.1.2 + _); exact Nat.lt_of_lt_of_le this (by omega)⟩) (by omega) (Rep.sub D') hN'
        intro i' k' y1' y2' f' es' e1' h'' N' T' hk' hT' D'' hN''
        exact ⟨⟨⟨es',e1',i',k',y1',y2',f',N',T'⟩,hk',hT'⟩,rfl,aft_plain (q:=⟨.next,[frM8 w.params ls rm k' x0 gd x1 y1' y2' f',cel (some (.ref bd)),dob es e,dob es' e1',fds "list_iterator" [.none,.int i' 0],lst vs e2],[],N',T'⟩) D'' rfl hN'' rfl⟩
end
end
end Mine
end
section
namespace Mine
section
variable (b:Bool) (P:Params) (N T:Nat)
theorem mf1 (aF aC ls bd gd im:Addr) (k:Nat → Tok) (c0 c1 c2:Nat) (x0 x1 x6 x7:Str) (j m f0:Int) (es es1:Array DictEntry) (e e1:Nat) (rm:Int) (GI:MI → Prop) (gi0:{z:MI // GI z}):Sg b P 130 [5,5,1,1,0,0,1,6,6,6,6,6,6,6,7,7,7,7,7,7,7,9,1,0,0,1,10,10,10,10,10,6,11,6,6,11,6,11,12,12,12,13] [0,1,0,0,0,0,0,0,0,1,0,0,0,0,0,0,0,0,0,0,0,0,0,0,0,0,0,1] (fl142M aF aC im) [(aF,(frm P [(J3,(k 0),(.ref ls)),(J0,(k 1),(.int 1 (k 11))),(J2,(k 2),(.str x0 (k 12))),(J9,(k 3),(.ref gd))] 4)),(aC,(cel (some (.ref bd)))),(bd,(dob es e)),(gd,(dob es1 e1)),(im,(fds "dict_keyiterator" [(.ref bd),(.int j 0),(.int m 0),(.int (e:Nat) 0)]))] N T (.ask Tok ⟨(.builtin "dict_keyiterator.__next__" ⟨[(.ref im)],[]⟩),0,0,[(im,(fds "dict_keyiterator" [(.ref bd),(.int j 0),(.int m 0),(.int (e:Nat) 0)])),(bd,(dob es e))],N,T⟩ [4,2] (fun z1=>⟨(.ret (.str J10 z1)),[(fds "dict_keyiterator" [(.ref bd),(.int (j + 1) 0),(.int m 0),(.int (e:Nat) 0)]),(dob es e)],[],N,T⟩) fun z1=>.stk fun p2 w2=>.ask Unit ⟨(.builtin "str.__iter__" ⟨[(.str J10 z1)],[]⟩),0,2,[],(N + 1),(T + 1)⟩ [] (fun z3=>⟨(.ret (.ref (N + 1))),[],[((N + 1),(fds "str_ascii_iterator" [(.str J10 z1),(.int 0 0)]))],(N + 2),(T + 1)⟩) fun z3=>.ask {z:MI // GI z} ⟨(fl142I aF aC (N + 7)),0,0,[(aF,(frm P [(J3,(k 0),(.ref ls)),(J0,(k 1),(.int 1 (k 11))),(J2,(k 2),(.str x0 (k 12))),(J9,(k 3),(.ref gd)),(J13,T,(.str J10 z1))] 5)),(aC,(cel (some (.ref bd)))),(bd,(dob es e)),(gd,(dob es1 e1)),((N + 7),(LI [(.ref (N + 6)),(.int 0 0)])),((N + 6),(lst [(.str J10 (T + 1))] 0))],(N + 8),(T + 5)⟩ [0,1,2,3,12,11] (fun z4=>⟨.next,[(frM8 P ls 1 z4.1.k x0 gd J10 z4.1.y1 z4.1.y2 z4.1.f),(cel (some (.ref bd))),(dob es e),(dob z4.1.es z4.1.e),(LI [.none,(.int z4.1.i 0)]),(lst [(.str J10 (T + 1))] 0)],[],z4.1.N,z4.1.T⟩) fun z4=>.fin (.ok (.again (fl142M aF aC im))) [(aF,(frM8 P ls 1 z4.1.k x0 gd J10 z4.1.y1 z4.1.y2 z4.1.f)),(aC,(cel (some (.ref bd)))),(bd,(dob es e)),(gd,(dob z4.1.es z4.1.e)),(im,(fds "dict_keyiterator" [(.ref bd),(.int (j + 1) 0),(.int m 0),(.int (e:Nat) 0)])),(N,(lst [] 0)),((N + 1),(fds "str_ascii_iterator" [.none,(.int 0 0)])),((N + 2),(tup [] 0)),((N + 3),(fds "StopIteration" [(.ref (N + 2)),.none,.none,.none,(.bool false),.none])),((N + 4),(lst [(.str J10 (T + 1))] 0)),((N + 5),(lst [(.str J10 (T + 1))] 0)),((N + 6),(lst [(.str J10 (T + 1))] 0)),((N + 7),(LI [.none,(.int z4.1.i 0)]))] z4.1.N z4.1.T):=fx 3 ⟨⟨0⟩,fun z1 p2 w2=>⟨()⟩,fun z1 p2 w2 z3=>⟨gi0⟩,fun z1 p2 w2 z3 z4=>trivial⟩ (by kernel_rfl)
theorem mm10 (aF aC ls bd gd im:Addr) (k:Nat → Tok) (c0 c1 c2:Nat) (x0 x1 x6 x7:Str) (j m f0:Int) (es es1:Array DictEntry) (e e1:Nat) (rm:Int) (GI:MI → Prop) (gi0:{z:MI // GI z}):Sg b P 130 [5,5,1,1,0,0,1,6,6,6,6,6,6,6,7,7,7,7,7,7,7,9,1,0,0,1,10,10,10,10,10,6,11,6,6,11,6,11,12,12,12,13] [0,1,0,0,0,0,0,0,0,1,0,0,0,0,0,0,0,0,0,0,0,0,0,0,0,0,0,1] (fl142M aF aC im) [(aF,(frm P [(J3,(k 0),(.ref ls)),(J0,(k 1),(.int 1 (k 11))),(J2,(k 2),(.str x0 (k 12))),(J9,(k 3),(.ref gd)),(J13,(k 4),(.str x1 (k 14))),(J16,(k 5),(.str x6 (k 15))),(J11,(k 6),(.str x7 (k 16))),(J1,(k 7),(.int f0 (k 17)))] 8)),(aC,(cel (some (.ref bd)))),(bd,(dob es e)),(gd,(dob es1 e1)),(im,(fds "dict_keyiterator" [(.ref bd),(.int j 0),(.int m 0),(.int (e:Nat) 0)]))] N T (.ask Tok ⟨(.builtin "dict_keyiterator.__next__" ⟨[(.ref im)],[]⟩),0,0,[(im,(fds "dict_keyiterator" [(.ref bd),(.int j 0),(.int m 0),(.int (e:Nat) 0)])),(bd,(dob es e))],N,T⟩ [4,2] (fun z1=>⟨(.ret (.str J10 z1)),[(fds "dict_keyiterator" [(.ref bd),(.int (j + 1) 0),(.int m 0),(.int (e:Nat) 0)]),(dob es e)],[],N,T⟩) fun z1=>.stk fun p2 w2=>.ask Unit ⟨(.builtin "str.__iter__" ⟨[(.str J10 z1)],[]⟩),0,2,[],(N + 1),(T + 1)⟩ [] (fun z3=>⟨(.ret (.ref (N + 1))),[],[((N + 1),(fds "str_ascii_iterator" [(.str J10 z1),(.int 0 0)]))],(N + 2),(T + 1)⟩) fun z3=>.ask {z:MI // GI z} ⟨(fl142I aF aC (N + 7)),0,0,[(aF,(frm P [(J3,(k 0),(.ref ls)),(J0,(k 1),(.int 1 (k 11))),(J2,(k 2),(.str x0 (k 12))),(J9,(k 3),(.ref gd)),(J13,(k 4),(.str J10 z1)),(J16,(k 5),(.str x6 (k 15))),(J11,(k 6),(.str x7 (k 16))),(J1,(k 7),(.int f0 (k 17)))] 8)),(aC,(cel (some (.ref bd)))),(bd,(dob es e)),(gd,(dob es1 e1)),((N + 7),(LI [(.ref (N + 6)),(.int 0 0)])),((N + 6),(lst [(.str J10 (T + 1))] 0))],(N + 8),(T + 5)⟩ [0,1,2,3,12,11] (fun z4=>⟨.next,[(frM8 P ls 1 z4.1.k x0 gd J10 z4.1.y1 z4.1.y2 z4.1.f),(cel (some (.ref bd))),(dob es e),(dob z4.1.es z4.1.e),(LI [.none,(.int z4.1.i 0)]),(lst [(.str J10 (T + 1))] 0)],[],z4.1.N,z4.1.T⟩) fun z4=>.fin (.ok (.again (fl142M aF aC im))) [(aF,(frM8 P ls 1 z4.1.k x0 gd J10 z4.1.y1 z4.1.y2 z4.1.f)),(aC,(cel (some (.ref bd)))),(bd,(dob es e)),(gd,(dob z4.1.es z4.1.e)),(im,(fds "dict_keyiterator" [(.ref bd),(.int (j + 1) 0),(.int m 0),(.int (e:Nat) 0)])),(N,(lst [] 0)),((N + 1),(fds "str_ascii_iterator" [.none,(.int 0 0)])),((N + 2),(tup [] 0)),((N + 3),(fds "StopIteration" [(.ref (N + 2)),.none,.none,.none,(.bool false),.none])),((N + 4),(lst [(.str J10 (T + 1))] 0)),((N + 5),(lst [(.str J10 (T + 1))] 0)),((N + 6),(lst [(.str J10 (T + 1))] 0)),((N + 7),(LI [.none,(.int z4.1.i 0)]))] z4.1.N z4.1.T):=fx 3 ⟨⟨0⟩,fun z1 p2 w2=>⟨()⟩,fun z1 p2 w2 z3=>⟨gi0⟩,fun z1 p2 w2 z3 z4=>trivial⟩ (by kernel_rfl)
theorem mm11 (aF aC ls bd gd im:Addr) (k:Nat → Tok) (c0 c1 c2:Nat) (x0 x1 x6 x7:Str) (j m f0:Int) (es es1:Array DictEntry) (e e1:Nat) (rm:Int) (GI:MI → Prop) (gi0:{z:MI // GI z}):Sg b P 144 [5,5,1,1,0,0,1,6,6,6,6,6,6,6,7,7,7,7,7,7,7,6,6,6,7,7,7,7,7,7,9,1,0,0,1,10,10,10,10,10,6,11,6,6,11,6,11,12,12,12,13] [0,1,0,0,0,0,0,0,0,1,0,0,0,0,0,0,0,0,0,0,0,0,0,0,0,0,0,0,0,0,1] (fl142M aF aC im) [(aF,(frm P [(J3,(k 0),(.ref ls)),(J0,(k 1),(.int 1 (k 11))),(J2,(k 2),(.str x0 (k 12))),(J9,(k 3),(.ref gd)),(J13,(k 4),(.str x1 (k 14))),(J16,(k 5),(.str x6 (k 15))),(J11,(k 6),(.str x7 (k 16))),(J1,(k 7),(.int f0 (k 17)))] 8)),(aC,(cel (some (.ref bd)))),(bd,(dob es e)),(gd,(dob es1 e1)),(im,(fds "dict_keyiterator" [(.ref bd),(.int j 0),(.int m 0),(.int (e:Nat) 0)]))] N T (.ask Tok ⟨(.builtin "dict_keyiterator.__next__" ⟨[(.ref im)],[]⟩),0,0,[(im,(fds "dict_keyiterator" [(.ref bd),(.int j 0),(.int m 0),(.int (e:Nat) 0)])),(bd,(dob es e))],N,T⟩ [4,2] (fun z1=>⟨(.ret (.str (sg [c0]) z1)),[(fds "dict_keyiterator" [(.ref bd),(.int (j + 1) 0),(.int m 0),(.int (e:Nat) 0)]),(dob es e)],[],N,T⟩) fun z1=>.stk fun p2 w2=>.ask Unit ⟨(.builtin "str.__iter__" ⟨[(.str (sg [c0]) z1)],[]⟩),0,2,[],(N + 1),(T + 1)⟩ [] (fun z3=>⟨(.ret (.ref (N + 1))),[],[((N + 1),(fds "str_ascii_iterator" [(.str (sg [c0]) z1),(.int 0 0)]))],(N + 2),(T + 1)⟩) fun z3=>.ask {z:MI // GI z} ⟨(fl142I aF aC (N + 7)),0,0,[(aF,(frm P [(J3,(k 0),(.ref ls)),(J0,(k 1),(.int 1 (k 11))),(J2,(k 2),(.str x0 (k 12))),(J9,(k 3),(.ref gd)),(J13,(k 4),(.str (sg [c0]) z1)),(J16,(k 5),(.str x6 (k 15))),(J11,(k 6),(.str x7 (k 16))),(J1,(k 7),(.int f0 (k 17)))] 8)),(aC,(cel (some (.ref bd)))),(bd,(dob es e)),(gd,(dob es1 e1)),((N + 7),(LI [(.ref (N + 6)),(.int 0 0)])),((N + 6),(lst [(.str (sg [c0]) (T + 1))] 0))],(N + 8),(T + 6)⟩ [0,1,2,3,12,11] (fun z4=>⟨.next,[(frM8 P ls 1 z4.1.k x0 gd (sg [c0]) z4.1.y1 z4.1.y2 z4.1.f),(cel (some (.ref bd))),(dob es e),(dob z4.1.es z4.1.e),(LI [.none,(.int z4.1.i 0)]),(lst [(.str (sg [c0]) (T + 1))] 0)],[],z4.1.N,z4.1.T⟩) fun z4=>.fin (.ok (.again (fl142M aF aC im))) [(aF,(frM8 P ls 1 z4.1.k x0 gd (sg [c0]) z4.1.y1 z4.1.y2 z4.1.f)),(aC,(cel (some (.ref bd)))),(bd,(dob es e)),(gd,(dob z4.1.es z4.1.e)),(im,(fds "dict_keyiterator" [(.ref bd),(.int (j + 1) 0),(.int m 0),(.int (e:Nat) 0)])),(N,(lst [(.str (sg [c0]) (T + 1))] 1)),((N + 1),(fds "str_ascii_iterator" [.none,(.int 1 0)])),((N + 2),(tup [] 0)),((N + 3),(fds "StopIteration" [(.ref (N + 2)),.none,.none,.none,(.bool false),.none])),((N + 4),(lst [(.str J10 (T + 2))] 0)),((N + 5),(lst [] 0)),((N + 6),(lst [(.str (sg [c0]) (T + 1))] 0)),((N + 7),(LI [.none,(.int z4.1.i 0)]))] z4.1.N z4.1.T):=fx 3 ⟨⟨0⟩,fun z1 p2 w2=>⟨()⟩,fun z1 p2 w2 z3=>⟨gi0⟩,fun z1 p2 w2 z3 z4=>trivial⟩ (by kernel_rfl)
theorem mf2 (aF aC ls bd gd im:Addr) (k:Nat → Tok) (c0 c1 c2:Nat) (x0 x1 x6 x7:Str) (j m f0:Int) (es es1:Array DictEntry) (e e1:Nat) (rm:Int) (GI:MI → Prop) (gi0:{z:MI // GI z}):Sg b P 130 [5,5,1,1,0,0,1,6,6,6,6,6,6,6,7,7,7,7,7,7,7,9,1,0,0,1,10,10,10,10,10,6,11,6,6,11,6,11,12,12,12,13] [0,1,0,0,0,0,0,0,0,1,0,0,0,0,0,0,0,0,0,0,0,0,0,0,0,0,0,1] (fl142M aF aC im) [(aF,(frm P [(J3,(k 0),(.ref ls)),(J0,(k 1),(.int 2 (k 11))),(J2,(k 2),(.str x0 (k 12))),(J9,(k 3),(.ref gd))] 4)),(aC,(cel (some (.ref bd)))),(bd,(dob es e)),(gd,(dob es1 e1)),(im,(fds "dict_keyiterator" [(.ref bd),(.int j 0),(.int m 0),(.int (e:Nat) 0)]))] N T (.ask Tok ⟨(.builtin "dict_keyiterator.__next__" ⟨[(.ref im)],[]⟩),0,0,[(im,(fds "dict_keyiterator" [(.ref bd),(.int j 0),(.int m 0),(.int (e:Nat) 0)])),(bd,(dob es e))],N,T⟩ [4,2] (fun z1=>⟨(.ret (.str J10 z1)),[(fds "dict_keyiterator" [(.ref bd),(.int (j + 1) 0),(.int m 0),(.int (e:Nat) 0)]),(dob es e)],[],N,T⟩) fun z1=>.stk fun p2 w2=>.ask Unit ⟨(.builtin "str.__iter__" ⟨[(.str J10 z1)],[]⟩),0,2,[],(N + 1),(T + 1)⟩ [] (fun z3=>⟨(.ret (.ref (N + 1))),[],[((N + 1),(fds "str_ascii_iterator" [(.str J10 z1),(.int 0 0)]))],(N + 2),(T + 1)⟩) fun z3=>.ask {z:MI // GI z} ⟨(fl142I aF aC (N + 7)),0,0,[(aF,(frm P [(J3,(k 0),(.ref ls)),(J0,(k 1),(.int 2 (k 11))),(J2,(k 2),(.str x0 (k 12))),(J9,(k 3),(.ref gd)),(J13,T,(.str J10 z1))] 5)),(aC,(cel (some (.ref bd)))),(bd,(dob es e)),(gd,(dob es1 e1)),((N + 7),(LI [(.ref (N + 6)),(.int 0 0)])),((N + 6),(lst [(.str J10 (T + 1)),(.str J10 (T + 1))] 0))],(N + 8),(T + 5)⟩ [0,1,2,3,12,11] (fun z4=>⟨.next,[(frM8 P ls 2 z4.1.k x0 gd J10 z4.1.y1 z4.1.y2 z4.1.f),(cel (some (.ref bd))),(dob es e),(dob z4.1.es z4.1.e),(LI [.none,(.int z4.1.i 0)]),(lst [(.str J10 (T + 1)),(.str J10 (T + 1))] 0)],[],z4.1.N,z4.1.T⟩) fun z4=>.fin (.ok (.again (fl142M aF aC im))) [(aF,(frM8 P ls 2 z4.1.k x0 gd J10 z4.1.y1 z4.1.y2 z4.1.f)),(aC,(cel (some (.ref bd)))),(bd,(dob es e)),(gd,(dob z4.1.es z4.1.e)),(im,(fds "dict_keyiterator" [(.ref bd),(.int (j + 1) 0),(.int m 0),(.int (e:Nat) 0)])),(N,(lst [] 0)),((N + 1),(fds "str_ascii_iterator" [.none,(.int 0 0)])),((N + 2),(tup [] 0)),((N + 3),(fds "StopIteration" [(.ref (N + 2)),.none,.none,.none,(.bool false),.none])),((N + 4),(lst [(.str J10 (T + 1))] 0)),((N + 5),(lst [(.str J10 (T + 1)),(.str J10 (T + 1))] 0)),((N + 6),(lst [(.str J10 (T + 1)),(.str J10 (T + 1))] 0)),((N + 7),(LI [.none,(.int z4.1.i 0)]))] z4.1.N z4.1.T):=fx 3 ⟨⟨0⟩,fun z1 p2 w2=>⟨()⟩,fun z1 p2 w2 z3=>⟨gi0⟩,fun z1 p2 w2 z3 z4=>trivial⟩ (by kernel_rfl)
theorem mm20 (aF aC ls bd gd im:Addr) (k:Nat → Tok) (c0 c1 c2:Nat) (x0 x1 x6 x7:Str) (j m f0:Int) (es es1:Array DictEntry) (e e1:Nat) (rm:Int) (GI:MI → Prop) (gi0:{z:MI // GI z}):Sg b P 130 [5,5,1,1,0,0,1,6,6,6,6,6,6,6,7,7,7,7,7,7,7,9,1,0,0,1,10,10,10,10,10,6,11,6,6,11,6,11,12,12,12,13] [0,1,0,0,0,0,0,0,0,1,0,0,0,0,0,0,0,0,0,0,0,0,0,0,0,0,0,1] (fl142M aF aC im) [(aF,(frm P [(J3,(k 0),(.ref ls)),(J0,(k 1),(.int 2 (k 11))),(J2,(k 2),(.str x0 (k 12))),(J9,(k 3),(.ref gd)),(J13,(k 4),(.str x1 (k 14))),(J16,(k 5),(.str x6 (k 15))),(J11,(k 6),(.str x7 (k 16))),(J1,(k 7),(.int f0 (k 17)))] 8)),(aC,(cel (some (.ref bd)))),(bd,(dob es e)),(gd,(dob es1 e1)),(im,(fds "dict_keyiterator" [(.ref bd),(.int j 0),(.int m 0),(.int (e:Nat) 0)]))] N T (.ask Tok ⟨(.builtin "dict_keyiterator.__next__" ⟨[(.ref im)],[]⟩),0,0,[(im,(fds "dict_keyiterator" [(.ref bd),(.int j 0),(.int m 0),(.int (e:Nat) 0)])),(bd,(dob es e))],N,T⟩ [4,2] (fun z1=>⟨(.ret (.str J10 z1)),[(fds "dict_keyiterator" [(.ref bd),(.int (j + 1) 0),(.int m 0),(.int (e:Nat) 0)]),(dob es e)],[],N,T⟩) fun z1=>.stk fun p2 w2=>.ask Unit ⟨(.builtin "str.__iter__" ⟨[(.str J10 z1)],[]⟩),0,2,[],(N + 1),(T + 1)⟩ [] (fun z3=>⟨(.ret (.ref (N + 1))),[],[((N + 1),(fds "str_ascii_iterator" [(.str J10 z1),(.int 0 0)]))],(N + 2),(T + 1)⟩) fun z3=>.ask {z:MI // GI z} ⟨(fl142I aF aC (N + 7)),0,0,[(aF,(frm P [(J3,(k 0),(.ref ls)),(J0,(k 1),(.int 2 (k 11))),(J2,(k 2),(.str x0 (k 12))),(J9,(k 3),(.ref gd)),(J13,(k 4),(.str J10 z1)),(J16,(k 5),(.str x6 (k 15))),(J11,(k 6),(.str x7 (k 16))),(J1,(k 7),(.int f0 (k 17)))] 8)),(aC,(cel (some (.ref bd)))),(bd,(dob es e)),(gd,(dob es1 e1)),((N + 7),(LI [(.ref (N + 6)),(.int 0 0)])),((N + 6),(lst [(.str J10 (T + 1)),(.str J10 (T + 1))] 0))],(N + 8),(T + 5)⟩ [0,1,2,3,12,11] (fun z4=>⟨.next,[(frM8 P ls 2 z4.1.k x0 gd J10 z4.1.y1 z4.1.y2 z4.1.f),(cel (some (.ref bd))),(dob es e),(dob z4.1.es z4.1.e),(LI [.none,(.int z4.1.i 0)]),(lst [(.str J10 (T + 1)),(.str J10 (T + 1))] 0)],[],z4.1.N,z4.1.T⟩) fun z4=>.fin (.ok (.again (fl142M aF aC im))) [(aF,(frM8 P ls 2 z4.1.k x0 gd J10 z4.1.y1 z4.1.y2 z4.1.f)),(aC,(cel (some (.ref bd)))),(bd,(dob es e)),(gd,(dob z4.1.es z4.1.e)),(im,(fds "dict_keyiterator" [(.ref bd),(.int (j + 1) 0),(.int m 0),(.int (e:Nat) 0)])),(N,(lst [] 0)),((N + 1),(fds "str_ascii_iterator" [.none,(.int 0 0)])),((N + 2),(tup [] 0)),((N + 3),(fds "StopIteration" [(.ref (N + 2)),.none,.none,.none,(.bool false),.none])),((N + 4),(lst [(.str J10 (T + 1))] 0)),((N + 5),(lst [(.str J10 (T + 1)),(.str J10 (T + 1))] 0)),((N + 6),(lst [(.str J10 (T + 1)),(.str J10 (T + 1))] 0)),((N + 7),(LI [.none,(.int z4.1.i 0)]))] z4.1.N z4.1.T):=fx 3 ⟨⟨0⟩,fun z1 p2 w2=>⟨()⟩,fun z1 p2 w2 z3=>⟨gi0⟩,fun z1 p2 w2 z3 z4=>trivial⟩ (by kernel_rfl)
theorem mm21 (aF aC ls bd gd im:Addr) (k:Nat → Tok) (c0 c1 c2:Nat) (x0 x1 x6 x7:Str) (j m f0:Int) (es es1:Array DictEntry) (e e1:Nat) (rm:Int) (GI:MI → Prop) (gi0:{z:MI // GI z}):Sg b P 144 [5,5,1,1,0,0,1,6,6,6,6,6,6,6,7,7,7,7,7,7,7,6,6,6,7,7,7,7,7,7,9,1,0,0,1,10,10,10,10,10,6,11,6,6,11,6,11,12,12,12,13] [0,1,0,0,0,0,0,0,0,1,0,0,0,0,0,0,0,0,0,0,0,0,0,0,0,0,0,0,0,0,1] (fl142M aF aC im) [(aF,(frm P [(J3,(k 0),(.ref ls)),(J0,(k 1),(.int 2 (k 11))),(J2,(k 2),(.str x0 (k 12))),(J9,(k 3),(.ref gd)),(J13,(k 4),(.str x1 (k 14))),(J16,(k 5),(.str x6 (k 15))),(J11,(k 6),(.str x7 (k 16))),(J1,(k 7),(.int f0 (k 17)))] 8)),(aC,(cel (some (.ref bd)))),(bd,(dob es e)),(gd,(dob es1 e1)),(im,(fds "dict_keyiterator" [(.ref bd),(.int j 0),(.int m 0),(.int (e:Nat) 0)]))] N T (.ask Tok ⟨(.builtin "dict_keyiterator.__next__" ⟨[(.ref im)],[]⟩),0,0,[(im,(fds "dict_keyiterator" [(.ref bd),(.int j 0),(.int m 0),(.int (e:Nat) 0)])),(bd,(dob es e))],N,T⟩ [4,2] (fun z1=>⟨(.ret (.str (sg [c0]) z1)),[(fds "dict_keyiterator" [(.ref bd),(.int (j + 1) 0),(.int m 0),(.int (e:Nat) 0)]),(dob es e)],[],N,T⟩) fun z1=>.stk fun p2 w2=>.ask Unit ⟨(.builtin "str.__iter__" ⟨[(.str (sg [c0]) z1)],[]⟩),0,2,[],(N + 1),(T + 1)⟩ [] (fun z3=>⟨(.ret (.ref (N + 1))),[],[((N + 1),(fds "str_ascii_iterator" [(.str (sg [c0]) z1),(.int 0 0)]))],(N + 2),(T + 1)⟩) fun z3=>.ask {z:MI // GI z} ⟨(fl142I aF aC (N + 7)),0,0,[(aF,(frm P [(J3,(k 0),(.ref ls)),(J0,(k 1),(.int 2 (k 11))),(J2,(k 2),(.str x0 (k 12))),(J9,(k 3),(.ref gd)),(J13,(k 4),(.str (sg [c0]) z1)),(J16,(k 5),(.str x6 (k 15))),(J11,(k 6),(.str x7 (k 16))),(J1,(k 7),(.int f0 (k 17)))] 8)),(aC,(cel (some (.ref bd)))),(bd,(dob es e)),(gd,(dob es1 e1)),((N + 7),(LI [(.ref (N + 6)),(.int 0 0)])),((N + 6),(lst [(.str (sg [c0]) (T + 1)),(.str J10 (T + 2))] 0))],(N + 8),(T + 6)⟩ [0,1,2,3,12,11] (fun z4=>⟨.next,[(frM8 P ls 2 z4.1.k x0 gd (sg [c0]) z4.1.y1 z4.1.y2 z4.1.f),(cel (some (.ref bd))),(dob es e),(dob z4.1.es z4.1.e),(LI [.none,(.int z4.1.i 0)]),(lst [(.str (sg [c0]) (T + 1)),(.str J10 (T + 2))] 0)],[],z4.1.N,z4.1.T⟩) fun z4=>.fin (.ok (.again (fl142M aF aC im))) [(aF,(frM8 P ls 2 z4.1.k x0 gd (sg [c0]) z4.1.y1 z4.1.y2 z4.1.f)),(aC,(cel (some (.ref bd)))),(bd,(dob es e)),(gd,(dob z4.1.es z4.1.e)),(im,(fds "dict_keyiterator" [(.ref bd),(.int (j + 1) 0),(.int m 0),(.int (e:Nat) 0)])),(N,(lst [(.str (sg [c0]) (T + 1))] 1)),((N + 1),(fds "str_ascii_iterator" [.none,(.int 1 0)])),((N + 2),(tup [] 0)),((N + 3),(fds "StopIteration" [(.ref (N + 2)),.none,.none,.none,(.bool false),.none])),((N + 4),(lst [(.str J10 (T + 2))] 0)),((N + 5),(lst [(.str J10 (T + 2))] 0)),((N + 6),(lst [(.str (sg [c0]) (T + 1)),(.str J10 (T + 2))] 0)),((N + 7),(LI [.none,(.int z4.1.i 0)]))] z4.1.N z4.1.T):=fx 3 ⟨⟨0⟩,fun z1 p2 w2=>⟨()⟩,fun z1 p2 w2 z3=>⟨gi0⟩,fun z1 p2 w2 z3 z4=>trivial⟩ (by kernel_rfl)
theorem mm22 (aF aC ls bd gd im:Addr) (k:Nat → Tok) (c0 c1 c2:Nat) (x0 x1 x6 x7:Str) (j m f0:Int) (es es1:Array DictEntry) (e e1:Nat) (rm:Int) (GI:MI → Prop) (gi0:{z:MI // GI z}):Sg b P 158 [5,5,1,1,0,0,1,6,6,6,6,6,6,6,7,7,7,7,7,7,7,6,6,6,7,7,7,7,7,7,6,6,6,7,7,7,7,7,7,9,1,0,0,1,10,10,10,10,10,6,11,6,6,11,6,11,12,12,12,13] [0,1,0,0,0,0,0,0,0,1,0,0,0,0,0,0,0,0,0,0,0,0,0,0,0,0,0,0,0,0,0,0,0,1] (fl142M aF aC im) [(aF,(frm P [(J3,(k 0),(.ref ls)),(J0,(k 1),(.int 2 (k 11))),(J2,(k 2),(.str x0 (k 12))),(J9,(k 3),(.ref gd)),(J13,(k 4),(.str x1 (k 14))),(J16,(k 5),(.str x6 (k 15))),(J11,(k 6),(.str x7 (k 16))),(J1,(k 7),(.int f0 (k 17)))] 8)),(aC,(cel (some (.ref bd)))),(bd,(dob es e)),(gd,(dob es1 e1)),(im,(fds "dict_keyiterator" [(.ref bd),(.int j 0),(.int m 0),(.int (e:Nat) 0)]))] N T (.ask Tok ⟨(.builtin "dict_keyiterator.__next__" ⟨[(.ref im)],[]⟩),0,0,[(im,(fds "dict_keyiterator" [(.ref bd),(.int j 0),(.int m 0),(.int (e:Nat) 0)])),(bd,(dob es e))],N,T⟩ [4,2] (fun z1=>⟨(.ret (.str (sg [c0,c1]) z1)),[(fds "dict_keyiterator" [(.ref bd),(.int (j + 1) 0),(.int m 0),(.int (e:Nat) 0)]),(dob es e)],[],N,T⟩) fun z1=>.stk fun p2 w2=>.ask Unit ⟨(.builtin "str.__iter__" ⟨[(.str (sg [c0,c1]) z1)],[]⟩),0,2,[],(N + 1),(T + 1)⟩ [] (fun z3=>⟨(.ret (.ref (N + 1))),[],[((N + 1),(fds "str_ascii_iterator" [(.str (sg [c0,c1]) z1),(.int 0 0)]))],(N + 2),(T + 1)⟩) fun z3=>.ask {z:MI // GI z} ⟨(fl142I aF aC (N + 7)),0,0,[(aF,(frm P [(J3,(k 0),(.ref ls)),(J0,(k 1),(.int 2 (k 11))),(J2,(k 2),(.str x0 (k 12))),(J9,(k 3),(.ref gd)),(J13,(k 4),(.str (sg [c0,c1]) z1)),(J16,(k 5),(.str x6 (k 15))),(J11,(k 6),(.str x7 (k 16))),(J1,(k 7),(.int f0 (k 17)))] 8)),(aC,(cel (some (.ref bd)))),(bd,(dob es e)),(gd,(dob es1 e1)),((N + 7),(LI [(.ref (N + 6)),(.int 0 0)])),((N + 6),(lst [(.str (sg [c0]) (T + 1)),(.str (sg [c1]) (T + 2))] 0))],(N + 8),(T + 7)⟩ [0,1,2,3,12,11] (fun z4=>⟨.next,[(frM8 P ls 2 z4.1.k x0 gd (sg [c0,c1]) z4.1.y1 z4.1.y2 z4.1.f),(cel (some (.ref bd))),(dob es e),(dob z4.1.es z4.1.e),(LI [.none,(.int z4.1.i 0)]),(lst [(.str (sg [c0]) (T + 1)),(.str (sg [c1]) (T + 2))] 0)],[],z4.1.N,z4.1.T⟩) fun z4=>.fin (.ok (.again (fl142M aF aC im))) [(aF,(frM8 P ls 2 z4.1.k x0 gd (sg [c0,c1]) z4.1.y1 z4.1.y2 z4.1.f)),(aC,(cel (some (.ref bd)))),(bd,(dob es e)),(gd,(dob z4.1.es z4.1.e)),(im,(fds "dict_keyiterator" [(.ref bd),(.int (j + 1) 0),(.int m 0),(.int (e:Nat) 0)])),(N,(lst [(.str (sg [c0]) (T + 1)),(.str (sg [c1]) (T + 2))] 2)),((N + 1),(fds "str_ascii_iterator" [.none,(.int 2 0)])),((N + 2),(tup [] 0)),((N + 3),(fds "StopIteration" [(.ref (N + 2)),.none,.none,.none,(.bool false),.none])),((N + 4),(lst [(.str J10 (T + 3))] 0)),((N + 5),(lst [] 0)),((N + 6),(lst [(.str (sg [c0]) (T + 1)),(.str (sg [c1]) (T + 2))] 0)),((N + 7),(LI [.none,(.int z4.1.i 0)]))] z4.1.N z4.1.T):=fx 3 ⟨⟨0⟩,fun z1 p2 w2=>⟨()⟩,fun z1 p2 w2 z3=>⟨gi0⟩,fun z1 p2 w2 z3 z4=>trivial⟩ (by kernel_rfl)
theorem mf3 (aF aC ls bd gd im:Addr) (k:Nat → Tok) (c0 c1 c2:Nat) (x0 x1 x6 x7:Str) (j m f0:Int) (es es1:Array DictEntry) (e e1:Nat) (rm:Int) (GI:MI → Prop) (gi0:{z:MI // GI z}):Sg b P 130 [5,5,1,1,0,0,1,6,6,6,6,6,6,6,7,7,7,7,7,7,7,9,1,0,0,1,10,10,10,10,10,6,11,6,6,11,6,11,12,12,12,13] [0,1,0,0,0,0,0,0,0,1,0,0,0,0,0,0,0,0,0,0,0,0,0,0,0,0,0,1] (fl142M aF aC im) [(aF,(frm P [(J3,(k 0),(.ref ls)),(J0,(k 1),(.int 3 (k 11))),(J2,(k 2),(.str x0 (k 12))),(J9,(k 3),(.ref gd))] 4)),(aC,(cel (some (.ref bd)))),(bd,(dob es e)),(gd,(dob es1 e1)),(im,(fds "dict_keyiterator" [(.ref bd),(.int j 0),(.int m 0),(.int (e:Nat) 0)]))] N T (.ask Tok ⟨(.builtin "dict_keyiterator.__next__" ⟨[(.ref im)],[]⟩),0,0,[(im,(fds "dict_keyiterator" [(.ref bd),(.int j 0),(.int m 0),(.int (e:Nat) 0)])),(bd,(dob es e))],N,T⟩ [4,2] (fun z1=>⟨(.ret (.str J10 z1)),[(fds "dict_keyiterator" [(.ref bd),(.int (j + 1) 0),(.int m 0),(.int (e:Nat) 0)]),(dob es e)],[],N,T⟩) fun z1=>.stk fun p2 w2=>.ask Unit ⟨(.builtin "str.__iter__" ⟨[(.str J10 z1)],[]⟩),0,2,[],(N + 1),(T + 1)⟩ [] (fun z3=>⟨(.ret (.ref (N + 1))),[],[((N + 1),(fds "str_ascii_iterator" [(.str J10 z1),(.int 0 0)]))],(N + 2),(T + 1)⟩) fun z3=>.ask {z:MI // GI z} ⟨(fl142I aF aC (N + 7)),0,0,[(aF,(frm P [(J3,(k 0),(.ref ls)),(J0,(k 1),(.int 3 (k 11))),(J2,(k 2),(.str x0 (k 12))),(J9,(k 3),(.ref gd)),(J13,T,(.str J10 z1))] 5)),(aC,(cel (some (.ref bd)))),(bd,(dob es e)),(gd,(dob es1 e1)),((N + 7),(LI [(.ref (N + 6)),(.int 0 0)])),((N + 6),(lst [(.str J10 (T + 1)),(.str J10 (T + 1)),(.str J10 (T + 1))] 0))],(N + 8),(T + 5)⟩ [0,1,2,3,12,11] (fun z4=>⟨.next,[(frM8 P ls 3 z4.1.k x0 gd J10 z4.1.y1 z4.1.y2 z4.1.f),(cel (some (.ref bd))),(dob es e),(dob z4.1.es z4.1.e),(LI [.none,(.int z4.1.i 0)]),(lst [(.str J10 (T + 1)),(.str J10 (T + 1)),(.str J10 (T + 1))] 0)],[],z4.1.N,z4.1.T⟩) fun z4=>.fin (.ok (.again (fl142M aF aC im))) [(aF,(frM8 P ls 3 z4.1.k x0 gd J10 z4.1.y1 z4.1.y2 z4.1.f)),(aC,(cel (some (.ref bd)))),(bd,(dob es e)),(gd,(dob z4.1.es z4.1.e)),(im,(fds "dict_keyiterator" [(.ref bd),(.int (j + 1) 0),(.int m 0),(.int (e:Nat) 0)])),(N,(lst [] 0)),((N + 1),(fds "str_ascii_iterator" [.none,(.int 0 0)])),((N + 2),(tup [] 0)),((N + 3),(fds "StopIteration" [(.ref (N + 2)),.none,.none,.none,(.bool false),.none])),((N + 4),(lst [(.str J10 (T + 1))] 0)),((N + 5),(lst [(.str J10 (T + 1)),(.str J10 (T + 1)),(.str J10 (T + 1))] 0)),((N + 6),(lst [(.str J10 (T + 1)),(.str J10 (T + 1)),(.str J10 (T + 1))] 0)),((N + 7),(LI [.none,(.int z4.1.i 0)]))] z4.1.N z4.1.T):=fx 3 ⟨⟨0⟩,fun z1 p2 w2=>⟨()⟩,fun z1 p2 w2 z3=>⟨gi0⟩,fun z1 p2 w2 z3 z4=>trivial⟩ (by kernel_rfl)
theorem mm30 (aF aC ls bd gd im:Addr) (k:Nat → Tok) (c0 c1 c2:Nat) (x0 x1 x6 x7:Str) (j m f0:Int) (es es1:Array DictEntry) (e e1:Nat) (rm:Int) (GI:MI → Prop) (gi0:{z:MI // GI z}):Sg b P 130 [5,5,1,1,0,0,1,6,6,6,6,6,6,6,7,7,7,7,7,7,7,9,1,0,0,1,10,10,10,10,10,6,11,6,6,11,6,11,12,12,12,13] [0,1,0,0,0,0,0,0,0,1,0,0,0,0,0,0,0,0,0,0,0,0,0,0,0,0,0,1] (fl142M aF aC im) [(aF,(frm P [(J3,(k 0),(.ref ls)),(J0,(k 1),(.int 3 (k 11))),(J2,(k 2),(.str x0 (k 12))),(J9,(k 3),(.ref gd)),(J13,(k 4),(.str x1 (k 14))),(J16,(k 5),(.str x6 (k 15))),(J11,(k 6),(.str x7 (k 16))),(J1,(k 7),(.int f0 (k 17)))] 8)),(aC,(cel (some (.ref bd)))),(bd,(dob es e)),(gd,(dob es1 e1)),(im,(fds "dict_keyiterator" [(.ref bd),(.int j 0),(.int m 0),(.int (e:Nat) 0)]))] N T (.ask Tok ⟨(.builtin "dict_keyiterator.__next__" ⟨[(.ref im)],[]⟩),0,0,[(im,(fds "dict_keyiterator" [(.ref bd),(.int j 0),(.int m 0),(.int (e:Nat) 0)])),(bd,(dob es e))],N,T⟩ [4,2] (fun z1=>⟨(.ret (.str J10 z1)),[(fds "dict_keyiterator" [(.ref bd),(.int (j + 1) 0),(.int m 0),(.int (e:Nat) 0)]),(dob es e)],[],N,T⟩) fun z1=>.stk fun p2 w2=>.ask Unit ⟨(.builtin "str.__iter__" ⟨[(.str J10 z1)],[]⟩),0,2,[],(N + 1),(T + 1)⟩ [] (fun z3=>⟨(.ret (.ref (N + 1))),[],[((N + 1),(fds "str_ascii_iterator" [(.str J10 z1),(.int 0 0)]))],(N + 2),(T + 1)⟩) fun z3=>.ask {z:MI // GI z} ⟨(fl142I aF aC (N + 7)),0,0,[(aF,(frm P [(J3,(k 0),(.ref ls)),(J0,(k 1),(.int 3 (k 11))),(J2,(k 2),(.str x0 (k 12))),(J9,(k 3),(.ref gd)),(J13,(k 4),(.str J10 z1)),(J16,(k 5),(.str x6 (k 15))),(J11,(k 6),(.str x7 (k 16))),(J1,(k 7),(.int f0 (k 17)))] 8)),(aC,(cel (some (.ref bd)))),(bd,(dob es e)),(gd,(dob es1 e1)),((N + 7),(LI [(.ref (N + 6)),(.int 0 0)])),((N + 6),(lst [(.str J10 (T + 1)),(.str J10 (T + 1)),(.str J10 (T + 1))] 0))],(N + 8),(T + 5)⟩ [0,1,2,3,12,11] (fun z4=>⟨.next,[(frM8 P ls 3 z4.1.k x0 gd J10 z4.1.y1 z4.1.y2 z4.1.f),(cel (some (.ref bd))),(dob es e),(dob z4.1.es z4.1.e),(LI [.none,(.int z4.1.i 0)]),(lst [(.str J10 (T + 1)),(.str J10 (T + 1)),(.str J10 (T + 1))] 0)],[],z4.1.N,z4.1.T⟩) fun z4=>.fin (.ok (.again (fl142M aF aC im))) [(aF,(frM8 P ls 3 z4.1.k x0 gd J10 z4.1.y1 z4.1.y2 z4.1.f)),(aC,(cel (some (.ref bd)))),(bd,(dob es e)),(gd,(dob z4.1.es z4.1.e)),(im,(fds "dict_keyiterator" [(.ref bd),(.int (j + 1) 0),(.int m 0),(.int (e:Nat) 0)])),(N,(lst [] 0)),((N + 1),(fds "str_ascii_iterator" [.none,(.int 0 0)])),((N + 2),(tup [] 0)),((N + 3),(fds "StopIteration" [(.ref (N + 2)),.none,.none,.none,(.bool false),.none])),((N + 4),(lst [(.str J10 (T + 1))] 0)),((N + 5),(lst [(.str J10 (T + 1)),(.str J10 (T + 1)),(.str J10 (T + 1))] 0)),((N + 6),(lst [(.str J10 (T + 1)),(.str J10 (T + 1)),(.str J10 (T + 1))] 0)),((N + 7),(LI [.none,(.int z4.1.i 0)]))] z4.1.N z4.1.T):=fx 3 ⟨⟨0⟩,fun z1 p2 w2=>⟨()⟩,fun z1 p2 w2 z3=>⟨gi0⟩,fun z1 p2 w2 z3 z4=>trivial⟩ (by kernel_rfl)
theorem mm31 (aF aC ls bd gd im:Addr) (k:Nat → Tok) (c0 c1 c2:Nat) (x0 x1 x6 x7:Str) (j m f0:Int) (es es1:Array DictEntry) (e e1:Nat) (rm:Int) (GI:MI → Prop) (gi0:{z:MI // GI z}):Sg b P 144 [5,5,1,1,0,0,1,6,6,6,6,6,6,6,7,7,7,7,7,7,7,6,6,6,7,7,7,7,7,7,9,1,0,0,1,10,10,10,10,10,6,11,6,6,11,6,11,12,12,12,13] [0,1,0,0,0,0,0,0,0,1,0,0,0,0,0,0,0,0,0,0,0,0,0,0,0,0,0,0,0,0,1] (fl142M aF aC im) [(aF,(frm P [(J3,(k 0),(.ref ls)),(J0,(k 1),(.int 3 (k 11))),(J2,(k 2),(.str x0 (k 12))),(J9,(k 3),(.ref gd)),(J13,(k 4),(.str x1 (k 14))),(J16,(k 5),(.str x6 (k 15))),(J11,(k 6),(.str x7 (k 16))),(J1,(k 7),(.int f0 (k 17)))] 8)),(aC,(cel (some (.ref bd)))),(bd,(dob es e)),(gd,(dob es1 e1)),(im,(fds "dict_keyiterator" [(.ref bd),(.int j 0),(.int m 0),(.int (e:Nat) 0)]))] N T (.ask Tok ⟨(.builtin "dict_keyiterator.__next__" ⟨[(.ref im)],[]⟩),0,0,[(im,(fds "dict_keyiterator" [(.ref bd),(.int j 0),(.int m 0),(.int (e:Nat) 0)])),(bd,(dob es e))],N,T⟩ [4,2] (fun z1=>⟨(.ret (.str (sg [c0]) z1)),[(fds "dict_keyiterator" [(.ref bd),(.int (j + 1) 0),(.int m 0),(.int (e:Nat) 0)]),(dob es e)],[],N,T⟩) fun z1=>.stk fun p2 w2=>.ask Unit ⟨(.builtin "str.__iter__" ⟨[(.str (sg [c0]) z1)],[]⟩),0,2,[],(N + 1),(T + 1)⟩ [] (fun z3=>⟨(.ret (.ref (N + 1))),[],[((N + 1),(fds "str_ascii_iterator" [(.str (sg [c0]) z1),(.int 0 0)]))],(N + 2),(T + 1)⟩) fun z3=>.ask {z:MI // GI z} ⟨(fl142I aF aC (N + 7)),0,0,[(aF,(frm P [(J3,(k 0),(.ref ls)),(J0,(k 1),(.int 3 (k 11))),(J2,(k 2),(.str x0 (k 12))),(J9,(k 3),(.ref gd)),(J13,(k 4),(.str (sg [c0]) z1)),(J16,(k 5),(.str x6 (k 15))),(J11,(k 6),(.str x7 (k 16))),(J1,(k 7),(.int f0 (k 17)))] 8)),(aC,(cel (some (.ref bd)))),(bd,(dob es e)),(gd,(dob es1 e1)),((N + 7),(LI [(.ref (N + 6)),(.int 0 0)])),((N + 6),(lst [(.str (sg [c0]) (T + 1)),(.str J10 (T + 2)),(.str J10 (T + 2))] 0))],(N + 8),(T + 6)⟩ [0,1,2,3,12,11] (fun z4=>⟨.next,[(frM8 P ls 3 z4.1.k x0 gd (sg [c0]) z4.1.y1 z4.1.y2 z4.1.f),(cel (some (.ref bd))),(dob es e),(dob z4.1.es z4.1.e),(LI [.none,(.int z4.1.i 0)]),(lst [(.str (sg [c0]) (T + 1)),(.str J10 (T + 2)),(.str J10 (T + 2))] 0)],[],z4.1.N,z4.1.T⟩) fun z4=>.fin (.ok (.again (fl142M aF aC im))) [(aF,(frM8 P ls 3 z4.1.k x0 gd (sg [c0]) z4.1.y1 z4.1.y2 z4.1.f)),(aC,(cel (some (.ref bd)))),(bd,(dob es e)),(gd,(dob z4.1.es z4.1.e)),(im,(fds "dict_keyiterator" [(.ref bd),(.int (j + 1) 0),(.int m 0),(.int (e:Nat) 0)])),(N,(lst [(.str (sg [c0]) (T + 1))] 1)),((N + 1),(fds "str_ascii_iterator" [.none,(.int 1 0)])),((N + 2),(tup [] 0)),((N + 3),(fds "StopIteration" [(.ref (N + 2)),.none,.none,.none,(.bool false),.none])),((N + 4),(lst [(.str J10 (T + 2))] 0)),((N + 5),(lst [(.str J10 (T + 2)),(.str J10 (T + 2))] 0)),((N + 6),(lst [(.str (sg [c0]) (T + 1)),(.str J10 (T + 2)),(.str J10 (T + 2))] 0)),((N + 7),(LI [.none,(.int z4.1.i 0)]))] z4.1.N z4.1.T):=fx 3 ⟨⟨0⟩,fun z1 p2 w2=>⟨()⟩,fun z1 p2 w2 z3=>⟨gi0⟩,fun z1 p2 w2 z3 z4=>trivial⟩ (by kernel_rfl)
theorem mm32 (aF aC ls bd gd im:Addr) (k:Nat → Tok) (c0 c1 c2:Nat) (x0 x1 x6 x7:Str) (j m f0:Int) (es es1:Array DictEntry) (e e1:Nat) (rm:Int) (GI:MI → Prop) (gi0:{z:MI // GI z}):Sg b P 158 [5,5,1,1,0,0,1,6,6,6,6,6,6,6,7,7,7,7,7,7,7,6,6,6,7,7,7,7,7,7,6,6,6,7,7,7,7,7,7,9,1,0,0,1,10,10,10,10,10,6,11,6,6,11,6,11,12,12,12,13] [0,1,0,0,0,0,0,0,0,1,0,0,0,0,0,0,0,0,0,0,0,0,0,0,0,0,0,0,0,0,0,0,0,1] (fl142M aF aC im) [(aF,(frm P [(J3,(k 0),(.ref ls)),(J0,(k 1),(.int 3 (k 11))),(J2,(k 2),(.str x0 (k 12))),(J9,(k 3),(.ref gd)),(J13,(k 4),(.str x1 (k 14))),(J16,(k 5),(.str x6 (k 15))),(J11,(k 6),(.str x7 (k 16))),(J1,(k 7),(.int f0 (k 17)))] 8)),(aC,(cel (some (.ref bd)))),(bd,(dob es e)),(gd,(dob es1 e1)),(im,(fds "dict_keyiterator" [(.ref bd),(.int j 0),(.int m 0),(.int (e:Nat) 0)]))] N T (.ask Tok ⟨(.builtin "dict_keyiterator.__next__" ⟨[(.ref im)],[]⟩),0,0,[(im,(fds "dict_keyiterator" [(.ref bd),(.int j 0),(.int m 0),(.int (e:Nat) 0)])),(bd,(dob es e))],N,T⟩ [4,2] (fun z1=>⟨(.ret (.str (sg [c0,c1]) z1)),[(fds "dict_keyiterator" [(.ref bd),(.int (j + 1) 0),(.int m 0),(.int (e:Nat) 0)]),(dob es e)],[],N,T⟩) fun z1=>.stk fun p2 w2=>.ask Unit ⟨(.builtin "str.__iter__" ⟨[(.str (sg [c0,c1]) z1)],[]⟩),0,2,[],(N + 1),(T + 1)⟩ [] (fun z3=>⟨(.ret (.ref (N + 1))),[],[((N + 1),(fds "str_ascii_iterator" [(.str (sg [c0,c1]) z1),(.int 0 0)]))],(N + 2),(T + 1)⟩) fun z3=>.ask {z:MI // GI z} ⟨(fl142I aF aC (N + 7)),0,0,[(aF,(frm P [(J3,(k 0),(.ref ls)),(J0,(k 1),(.int 3 (k 11))),(J2,(k 2),(.str x0 (k 12))),(J9,(k 3),(.ref gd)),(J13,(k 4),(.str (sg [c0,c1]) z1)),(J16,(k 5),(.str x6 (k 15))),(J11,(k 6),(.str x7 (k 16))),(J1,(k 7),(.int f0 (k 17)))] 8)),(aC,(cel (some (.ref bd)))),(bd,(dob es e)),(gd,(dob es1 e1)),((N + 7),(LI [(.ref (N + 6)),(.int 0 0)])),((N + 6),(lst [(.str (sg [c0]) (T + 1)),(.str (sg [c1]) (T + 2)),(.str J10 (T + 3))] 0))],(N + 8),(T + 7)⟩ [0,1,2,3,12,11] (fun z4=>⟨.next,[(frM8 P ls 3 z4.1.k x0 gd (sg [c0,c1]) z4.1.y1 z4.1.y2 z4.1.f),(cel (some (.ref bd))),(dob es e),(dob z4.1.es z4.1.e),(LI [.none,(.int z4.1.i 0)]),(lst [(.str (sg [c0]) (T + 1)),(.str (sg [c1]) (T + 2)),(.str J10 (T + 3))] 0)],[],z4.1.N,z4.1.T⟩) fun z4=>.fin (.ok (.again (fl142M aF aC im))) [(aF,(frM8 P ls 3 z4.1.k x0 gd (sg [c0,c1]) z4.1.y1 z4.1.y2 z4.1.f)),(aC,(cel (some (.ref bd)))),(bd,(dob es e)),(gd,(dob z4.1.es z4.1.e)),(im,(fds "dict_keyiterator" [(.ref bd),(.int (j + 1) 0),(.int m 0),(.int (e:Nat) 0)])),(N,(lst [(.str (sg [c0]) (T + 1)),(.str (sg [c1]) (T + 2))] 2)),((N + 1),(fds "str_ascii_iterator" [.none,(.int 2 0)])),((N + 2),(tup [] 0)),((N + 3),(fds "StopIteration" [(.ref (N + 2)),.none,.none,.none,(.bool false),.none])),((N + 4),(lst [(.str J10 (T + 3))] 0)),((N + 5),(lst [(.str J10 (T + 3))] 0)),((N + 6),(lst [(.str (sg [c0]) (T + 1)),(.str (sg [c1]) (T + 2)),(.str J10 (T + 3))] 0)),((N + 7),(LI [.none,(.int z4.1.i 0)]))] z4.1.N z4.1.T):=fx 3 ⟨⟨0⟩,fun z1 p2 w2=>⟨()⟩,fun z1 p2 w2 z3=>⟨gi0⟩,fun z1 p2 w2 z3 z4=>trivial⟩ (by kernel_rfl)
theorem mm33 (aF aC ls bd gd im:Addr) (k:Nat → Tok) (c0 c1 c2:Nat) (x0 x1 x6 x7:Str) (j m f0:Int) (es es1:Array DictEntry) (e e1:Nat) (rm:Int) (GI:MI → Prop) (gi0:{z:MI // GI z}):Sg b P 172 [5,5,1,1,0,0,1,6,6,6,6,6,6,6,7,7,7,7,7,7,7,6,6,6,7,7,7,7,7,7,6,6,6,7,7,7,7,7,7,6,6,6,7,7,7,7,7,7,9,1,0,0,1,10,10,10,10,10,6,11,6,6,11,6,11,12,12,12,13] [0,1,0,0,0,0,0,0,0,1,0,0,0,0,0,0,0,0,0,0,0,0,0,0,0,0,0,0,0,0,0,0,0,0,0,0,1] (fl142M aF aC im) [(aF,(frm P [(J3,(k 0),(.ref ls)),(J0,(k 1),(.int 3 (k 11))),(J2,(k 2),(.str x0 (k 12))),(J9,(k 3),(.ref gd)),(J13,(k 4),(.str x1 (k 14))),(J16,(k 5),(.str x6 (k 15))),(J11,(k 6),(.str x7 (k 16))),(J1,(k 7),(.int f0 (k 17)))] 8)),(aC,(cel (some (.ref bd)))),(bd,(dob es e)),(gd,(dob es1 e1)),(im,(fds "dict_keyiterator" [(.ref bd),(.int j 0),(.int m 0),(.int (e:Nat) 0)]))] N T (.ask Tok ⟨(.builtin "dict_keyiterator.__next__" ⟨[(.ref im)],[]⟩),0,0,[(im,(fds "dict_keyiterator" [(.ref bd),(.int j 0),(.int m 0),(.int (e:Nat) 0)])),(bd,(dob es e))],N,T⟩ [4,2] (fun z1=>⟨(.ret (.str (sg [c0,c1,c2]) z1)),[(fds "dict_keyiterator" [(.ref bd),(.int (j + 1) 0),(.int m 0),(.int (e:Nat) 0)]),(dob es e)],[],N,T⟩) fun z1=>.stk fun p2 w2=>.ask Unit ⟨(.builtin "str.__iter__" ⟨[(.str (sg [c0,c1,c2]) z1)],[]⟩),0,2,[],(N + 1),(T + 1)⟩ [] (fun z3=>⟨(.ret (.ref (N + 1))),[],[((N + 1),(fds "str_ascii_iterator" [(.str (sg [c0,c1,c2]) z1),(.int 0 0)]))],(N + 2),(T + 1)⟩) fun z3=>.ask {z:MI // GI z} ⟨(fl142I aF aC (N + 7)),0,0,[(aF,(frm P [(J3,(k 0),(.ref ls)),(J0,(k 1),(.int 3 (k 11))),(J2,(k 2),(.str x0 (k 12))),(J9,(k 3),(.ref gd)),(J13,(k 4),(.str (sg [c0,c1,c2]) z1)),(J16,(k 5),(.str x6 (k 15))),(J11,(k 6),(.str x7 (k 16))),(J1,(k 7),(.int f0 (k 17)))] 8)),(aC,(cel (some (.ref bd)))),(bd,(dob es e)),(gd,(dob es1 e1)),((N + 7),(LI [(.ref (N + 6)),(.int 0 0)])),((N + 6),(lst [(.str (sg [c0]) (T + 1)),(.str (sg [c1]) (T + 2)),(.str (sg [c2]) (T + 3))] 0))],(N + 8),(T + 8)⟩ [0,1,2,3,12,11] (fun z4=>⟨.next,[(frM8 P ls 3 z4.1.k x0 gd (sg [c0,c1,c2]) z4.1.y1 z4.1.y2 z4.1.f),(cel (some (.ref bd))),(dob es e),(dob z4.1.es z4.1.e),(LI [.none,(.int z4.1.i 0)]),(lst [(.str (sg [c0]) (T + 1)),(.str (sg [c1]) (T + 2)),(.str (sg [c2]) (T + 3))] 0)],[],z4.1.N,z4.1.T⟩) fun z4=>.fin (.ok (.again (fl142M aF aC im))) [(aF,(frM8 P ls 3 z4.1.k x0 gd (sg [c0,c1,c2]) z4.1.y1 z4.1.y2 z4.1.f)),(aC,(cel (some (.ref bd)))),(bd,(dob es e)),(gd,(dob z4.1.es z4.1.e)),(im,(fds "dict_keyiterator" [(.ref bd),(.int (j + 1) 0),(.int m 0),(.int (e:Nat) 0)])),(N,(lst [(.str (sg [c0]) (T + 1)),(.str (sg [c1]) (T + 2)),(.str (sg [c2]) (T + 3))] 3)),((N + 1),(fds "str_ascii_iterator" [.none,(.int 3 0)])),((N + 2),(tup [] 0)),((N + 3),(fds "StopIteration" [(.ref (N + 2)),.none,.none,.none,(.bool false),.none])),((N + 4),(lst [(.str J10 (T + 4))] 0)),((N + 5),(lst [] 0)),((N + 6),(lst [(.str (sg [c0]) (T + 1)),(.str (sg [c1]) (T + 2)),(.str (sg [c2]) (T + 3))] 0)),((N + 7),(LI [.none,(.int z4.1.i 0)]))] z4.1.N z4.1.T):=fx 3 ⟨⟨0⟩,fun z1 p2 w2=>⟨()⟩,fun z1 p2 w2 z3=>⟨gi0⟩,fun z1 p2 w2 z3 z4=>trivial⟩ (by kernel_rfl)
theorem mmz (aF aC ls bd gd im:Addr) (k:Nat → Tok) (c0 c1 c2:Nat) (x0 x1 x6 x7:Str) (j m f0:Int) (es es1:Array DictEntry) (e e1:Nat) (rm:Int) (GI:MI → Prop) (gi0:{z:MI // GI z}):Sg b P 12 [5,5,7] [0,1] (fl142M aF aC im) [(aF,(frm P [(J3,(k 0),(.ref ls)),(J0,(k 1),(.int rm (k 11))),(J2,(k 2),(.str x0 (k 12))),(J9,(k 3),(.ref gd)),(J13,(k 4),(.str x1 (k 14))),(J16,(k 5),(.str x6 (k 15))),(J11,(k 6),(.str x7 (k 16))),(J1,(k 7),(.int f0 (k 17)))] 8)),(aC,(cel (some (.ref bd)))),(bd,(dob es e)),(gd,(dob es1 e1)),(im,(fds "dict_keyiterator" [(.ref bd),(.int j 0),(.int m 0),(.int (e:Nat) 0)]))] N T (.ask Unit ⟨(.builtin "dict_keyiterator.__next__" ⟨[(.ref im)],[]⟩),0,0,[(im,(fds "dict_keyiterator" [(.ref bd),(.int j 0),(.int m 0),(.int (e:Nat) 0)])),(bd,(dob es e))],N,T⟩ [4,2] (fun z1=>⟨(.err (.ref (N + 1))),[(fds "dict_keyiterator" [.none,(.int j 0),(.int m 0),(.int (e:Nat) 0)]),(dob es e)],[(N,(tup [] 0)),((N + 1),(fds "StopIteration" [(.ref N),.none,.none,.none,(.bool false),.none]))],(N + 2),T⟩) fun z1=>.fin (.ok (.again (bl142 aF aC))) [(aF,(frm P [(J3,(k 0),(.ref ls)),(J0,(k 1),(.int rm (k 11))),(J2,(k 2),(.str x0 (k 12))),(J9,(k 3),(.ref gd)),(J13,(k 4),(.str x1 (k 14))),(J16,(k 5),(.str x6 (k 15))),(J11,(k 6),(.str x7 (k 16))),(J1,(k 7),(.int f0 (k 17)))] 8)),(aC,(cel (some (.ref bd)))),(bd,(dob es e)),(gd,(dob es1 e1)),(im,(fds "dict_keyiterator" [.none,(.int j 0),(.int m 0),(.int (e:Nat) 0)])),(N,(tup [] 0)),((N + 1),(fds "StopIteration" [(.ref N),.none,.none,.none,(.bool false),.none]))] (N + 2) T):=fx 1 ⟨⟨()⟩,fun z1=>trivial⟩ (by kernel_rfl)
end
end Mine
end
section
namespace Mine
structure MM where
  es:Array DictEntry
  e:Nat
  j:Int
  k:Nat → Tok
  x1:Str
  y1:Str
  y2:Str
  f:Int
  N:Nat
  T:Nat
section
open PyProof.Rows PySem.Builtin PySem.Builtin.Str
theorem dk_inn {w:World} (v:Int) (tops here:PySem.Str):∀ (l:List PySem.Str) (es:Array DictEntry) (ns:List (PySem.Str × Int)),DK w es ns → ∃ es',DK w es' (innF v tops here l ns)
  | [],es,_,h=>⟨es,h⟩
  | tp :: r,es,ns,h=>by
    obtain ⟨es',h'⟩:=dk_step h (keyS tops tp here) (gtI (v + (if sLt here tp then 1 else 0)) ((lookI ns (keyS tops tp here)).getD 0))
    exact dk_inn v tops here r es' _ h'
theorem dk_mid {w:World} (room:Nat) (here:PySem.Str):∀ (l:List (PySem.Str × Int)) (es:Array DictEntry) (ns:List (PySem.Str × Int)),DK w es ns → ∃ es',DK w es' (midF room here l ns)
  | [],es,_,h=>⟨es,h⟩
  | p :: r,es,ns,h=>by
    obtain ⟨es',h'⟩:=dk_inn p.2 p.1 here (topsL room p.1) es ns h
    exact dk_mid room here r es' _ h'
theorem VI.keys:∀ {kvs:List (PySem.Str × Value)} {ns:List (PySem.Str × Int)},VI kvs ns → ns.map (·.1) = kvs.map (·.1)
  | [],[],_=>rfl
  | p :: r,q :: r',h=>by rw [List.map_cons,List.map_cons,VI.keys h.2.2,h.1]
  | [],_ :: _,h=>h.elim
  | _ :: _,[],h=>h.elim
theorem look_of_get:∀ {ns:List (PySem.Str × Int)} (_:(ns.map (·.1)).Nodup) (i:Nat) {x:PySem.Str} {n:Int},ns[i]? = some (x,n) → lookI ns x = some n
  | q :: r,_,0,x,n,h=>by
    simp at h
    subst h
    simp [lookI]
  | q :: r,hn,i + 1,x,n,h=>by
    simp at h
    rw [List.map_cons,List.nodup_cons] at hn
    have:q.1 ≠ x:=fun e=>hn.1 (by rw [e]; exact List.mem_map.mpr ⟨(x,n),List.mem_of_getElem? h,rfl⟩)
    have ih:=look_of_get hn.2 i h
    simp only [lookI,List.find?_cons,this,decide_false] at ih ⊢
    exact ih
  | [],_,i,x,n,h=>by simp at h
theorem DK.look {w:World} {es:Array DictEntry} {ns:List (PySem.Str × Int)} (h:DK w es ns) {i:Nat} {x:PySem.Str} {n:Int} (hi:ns[i]? = some (x,n)):lookI ns x = some n:=by
  obtain ⟨kvs,_,_,h3,h4⟩:=h
  exact look_of_get (by rw [h4.keys]; exact h3) i hi
section
variable {w:World} {b:Bool} (O:(cfg b w.params).Ok PG w)
include O
theorem loop_mm1 {aF aC ls bd gd im:Addr} {x0:PySem.Str} {es:Array DictEntry} {e:Nat} {A:Around} {R:Result → Shared → Prop} {S:List Addr} {h₀:Heap} {g:Array GenState} {d:Drawn} {os:OsState}
    (hz:A.handled = none) (hd:A.depth ≤ 549) (hu:A.units ≤ 5490) {best:List (PySem.Str × Int)} (hbest:DK w es best) (hgd:(gd == sysModules) = false) (want:List (PySem.Str × Int))
    (hend:∀ j k x1 y1 y2 f es1 e1 h N T,DK w es1 want → Rep (cfg b w.params) S h₀ [(aF,frM8 w.params ls 1 k x0 gd x1 y1 y2 f),(aC,cel (some (.ref bd))),(bd,dob es e),(gd,dob es1 e1),(im,fds "dict_keyiterator" [.none,.int j 0,.int (es.size:Nat) 0,.int (e:Nat) 0])] h → h.objs.size = N → R (.ok .next) ⟨h,g,d,T,os⟩) :
    ∀ (rest:List (PySem.Str × Int)) (ii:Nat) (j:Int) (k:Nat → Tok) (x1 y1 y2:PySem.Str) (f:Int) (es1:Array DictEntry) (e1:Nat) (ns:List (PySem.Str × Int)) (h:Heap) (N T:Nat),j = ii → best.drop ii = rest → DK w es1 ns →
      midF 1 x0 rest ns = want → midOk 1 x0 rest ns = true → Rep (cfg b w.params) S h₀ [(aF,frM8 w.params ls 1 k x0 gd x1 y1 y2 f),(aC,cel (some (.ref bd))),(bd,dob es e),(gd,dob es1 e1),(im,fds "dict_keyiterator" [.ref bd,.int j 0,.int (es.size:Nat) 0,.int (e:Nat) 0])] h → h.objs.size = N → codeAny (model PG w) A (fl142M aF aC im) R ⟨h,g,d,T,os⟩
  | [],ii,j,k,x1,y1,y2,f,es1,e1,ns,h,N,T,hj,hr,hns,hw,hok,D,hN=>by
    have hget:best[ii]? = none:=by
      rw [List.drop_eq_nil_iff] at hr
      simpa using hr
    refine code_run O hz (mmz b w.params N T aF aC ls bd gd im k 0 0 0 x0 x1 y1 y2 j (es.size:Nat) f es es1 e e1 1 (fun _=>True) ⟨⟨#[],0,0,fun _=>0,x0,x0,0,0,0⟩,trivial⟩) D hN (HHx 1 ⟨⟨by decide,conDItE O hbest hj rfl hget⟩,fun _=>trivial,fun _=>?_⟩)
    intro h' D' hN' hq
    refine ⟨hq,block_nil (hend j k x1 y1 y2 f es1 e1 h' _ _ ?_ (Rep.sub D') hN')⟩
    rw [← hw]; exact hns
  | (⟨⟨cs⟩⟩,v) :: rest,ii,j,k,x1,y1,y2,f,es1,e1,ns,h,N,T,hj,hr,hns,hw,hok,D,hN=>by
    have hget:best[ii]? = some (⟨⟨cs⟩⟩,v):=by
      have:=congrArg List.head? hr
      simpa using this
    have hr':best.drop (ii + 1) = rest:=by
      have:=congrArg List.tail hr
      simpa using this
    rw [midOk,Bool.and_eq_true,Bool.and_eq_true,Bool.and_eq_true,decide_eq_true_eq] at hok
    obtain ⟨⟨⟨hlen,ha⟩,hinn⟩,hok2⟩:=hok
    obtain ⟨es0,hes0⟩:=dk_inn v ⟨⟨cs⟩⟩ x0 (topsL 1 ⟨⟨cs⟩⟩) es1 ns hns
    rcases cs with _ | ⟨c0,_ | ⟨c1,cs⟩⟩
    · refine code_run O hz (mm10 b w.params N T aF aC ls bd gd im k 0 0 0 x0 x1 y1 y2 j (es.size:Nat) f es es1 e e1 1 (fun z=>DK w z.es (innF v (sg []) x0 (topsL 1 (sg [])) ns)) ⟨⟨es0,0,0,fun _=>0,x0,x0,0,0,0⟩,hes0⟩) D hN
        (HHx 3 ⟨⟨by decide,conDIt hbest hj rfl hget⟩,fun z1 p2 w2=>⟨by decide,conSIter ha⟩,fun z1 p2 w2 _=>⟨by decide,((con_mi8 (k:=(fun i=>match i with | 14=>z1 | i=>k i)) O hbest (hbest.look hget) hgd [(sg [],T + 1)] rfl hns rfl hinn (by
          intro p hp
          simp only [List.mem_cons,List.not_mem_nil,or_false] at hp
          rcases hp with rfl
          first | (left; rfl) | (right; exact ⟨Nat.succ_ne_zero _,Nat.add_lt_add_left (by decide) T⟩))).mono (Mine.bd hd rfl) (Mine.bd hu rfl)).conv (fun z=>⟨(⟨z.1,z.2.1⟩:{z:MI // DK w z.es (innF v (sg []) x0 (topsL 1 (sg [])) ns)}),rfl⟩)⟩,fun _ _ _ _ _=>trivial,fun z1 p2 w2 _ z4=>?_⟩)
      intro h' D' hN' hq
      refine ⟨hq,?_⟩
      exact loop_mm1 hz hd hu hbest hgd want hend rest (ii + 1) (j + 1) z4.1.k _ z4.1.y1 z4.1.y2 z4.1.f z4.1.es z4.1.e _ h' _ _ (by rw [hj]; rfl) hr' z4.2 hw hok2 (Rep.sub D') hN'
    · refine code_run O hz (mm11 b w.params N T aF aC ls bd gd im k c0 0 0 x0 x1 y1 y2 j (es.size:Nat) f es es1 e e1 1 (fun z=>DK w z.es (innF v (sg [c0]) x0 (topsL 1 (sg [c0])) ns)) ⟨⟨es0,0,0,fun _=>0,x0,x0,0,0,0⟩,hes0⟩) D hN
        (HHx 3 ⟨⟨by decide,conDIt hbest hj rfl hget⟩,fun z1 p2 w2=>⟨by decide,conSIter ha⟩,fun z1 p2 w2 _=>⟨by decide,((con_mi8 (k:=(fun i=>match i with | 14=>z1 | i=>k i)) O hbest (hbest.look hget) hgd [(sg [c0],T + 1)] rfl hns rfl hinn (by
          intro p hp
          simp only [List.mem_cons,List.not_mem_nil,or_false] at hp
          rcases hp with rfl
          first | (left; rfl) | (right; exact ⟨Nat.succ_ne_zero _,Nat.add_lt_add_left (by decide) T⟩))).mono (Mine.bd hd rfl) (Mine.bd hu rfl)).conv (fun z=>⟨(⟨z.1,z.2.1⟩:{z:MI // DK w z.es (innF v (sg [c0]) x0 (topsL 1 (sg [c0])) ns)}),rfl⟩)⟩,fun _ _ _ _ _=>trivial,fun z1 p2 w2 _ z4=>?_⟩)
      intro h' D' hN' hq
      refine ⟨hq,?_⟩
      exact loop_mm1 hz hd hu hbest hgd want hend rest (ii + 1) (j + 1) z4.1.k _ z4.1.y1 z4.1.y2 z4.1.f z4.1.es z4.1.e _ h' _ _ (by rw [hj]; rfl) hr' z4.2 hw hok2 (Rep.sub D') hN'
    · simp at hlen
theorem con_mm8_1 {aF aC ls bd gd im:Addr} {x0:PySem.Str} {es es1:Array DictEntry} {e e1 N T:Nat} {k:Nat → Tok} {x1 y1 y2:PySem.Str} {f:Int} {best:List (PySem.Str × Int)} (hbest:DK w es best) (hgd:(gd == sysModules) = false) {want ns:List (PySem.Str × Int)} (hns:DK w es1 ns) (hw:midF 1 x0 best ns = want) (hok:midOk 1 x0 best ns = true) :
    CG w b 549 5490 (fl142M aF aC im) [(aF,frM8 w.params ls 1 k x0 gd x1 y1 y2 f),(aC,cel (some (.ref bd))),(bd,dob es e),(gd,dob es1 e1),(im,fds "dict_keyiterator" [.ref bd,.int 0 0,.int (es.size:Nat) 0,.int (e:Nat) 0])] N T
      (fun z:{z:MM // DK w z.es want}=>⟨.next,[frM8 w.params ls 1 z.1.k x0 gd z.1.x1 z.1.y1 z.1.y2 z.1.f,cel (some (.ref bd)),dob es e,dob z.1.es z.1.e,fds "dict_keyiterator" [.none,.int z.1.j 0,.int (es.size:Nat) 0,.int (e:Nat) 0]],[],z.1.N,z.1.T⟩):=by
  refine coni fun A h g dr os G hz hd hu D hN hG=>?_
  refine hG ?_
  refine loop_mm1 O hz hd hu hbest hgd want ?_ best 0 0 k x1 y1 y2 f es1 e1 ns h N T rfl rfl hns hw hok D hN
  intro j' k' x1' y1' y2' f' es' e1' h'' N' T' hk' D'' hN''
  exact ⟨⟨⟨es',e1',j',k',x1',y1',y2',f',N',T'⟩,hk'⟩,rfl,aft_plain (q:=⟨.next,[frM8 w.params ls 1 k' x0 gd x1' y1' y2' f',cel (some (.ref bd)),dob es e,dob es' e1',fds "dict_keyiterator" [.none,.int j' 0,.int (es.size:Nat) 0,.int (e:Nat) 0]],[],N',T'⟩) D'' rfl hN'' rfl⟩
theorem con_mm4_1 {aF aC ls bd gd im:Addr} {x0:PySem.Str} {es es1:Array DictEntry} {e e1 N T:Nat} {k:Nat → Tok} {v:Int} {rest:List (PySem.Str × Int)} (hbest:DK w es ((sg [],v) :: rest)) (hgd:(gd == sysModules) = false) {want ns:List (PySem.Str × Int)} (hns:DK w es1 ns) (hw:midF 1 x0 ((sg [],v) :: rest) ns = want) (hok:midOk 1 x0 ((sg [],v) :: rest) ns = true) :
    CG w b 549 5490 (fl142M aF aC im) [(aF,frM4 w.params ls 1 k x0 gd),(aC,cel (some (.ref bd))),(bd,dob es e),(gd,dob es1 e1),(im,fds "dict_keyiterator" [.ref bd,.int 0 0,.int (es.size:Nat) 0,.int (e:Nat) 0])] N T
      (fun z:{z:MM // DK w z.es want}=>⟨.next,[frM8 w.params ls 1 z.1.k x0 gd z.1.x1 z.1.y1 z.1.y2 z.1.f,cel (some (.ref bd)),dob es e,dob z.1.es z.1.e,fds "dict_keyiterator" [.none,.int z.1.j 0,.int (es.size:Nat) 0,.int (e:Nat) 0]],[],z.1.N,z.1.T⟩):=by
  intro A s hz hd hu ht hh nd off hN hT
  obtain ⟨h,g,dr,T,os⟩:=s
  have hT2:T = _:=hT
  subst hT2
  have D:=rep_start (C:=cfg b w.params) ht hh nd off
  have hget:((sg [],v) :: rest)[0]? = some (sg [],v):=rfl
  have hj:(0:Int) = ((0:Nat):Int):=rfl
  have hok':=hok
  rw [midOk,Bool.and_eq_true,Bool.and_eq_true,Bool.and_eq_true,decide_eq_true_eq] at hok'
  obtain ⟨⟨⟨hlen,ha⟩,hinn⟩,hok2⟩:=hok'
  obtain ⟨es0,hes0⟩:=dk_inn v (sg []) x0 (topsL 1 (sg [])) es1 ns hns
  refine code_run O hz (mf1 b w.params N T aF aC ls bd gd im k 0 0 0 x0 x0 x0 x0 0 (es.size:Nat) 0 es es1 e e1 1 (fun z=>DK w z.es (innF v (sg []) x0 (topsL 1 (sg [])) ns)) ⟨⟨es0,0,0,fun _=>0,x0,x0,0,0,0⟩,hes0⟩) D hN
    (HHx 3 ⟨⟨by decide,conDIt hbest hj rfl hget⟩,fun z1 p2 w2=>⟨by decide,conSIter ha⟩,fun z1 p2 w2 _=>⟨by decide,((con_mi5 (k:=(fun i=>match i with | 4=>T | 14=>z1 | i=>k i)) O hbest (hbest.look hget) hgd [(sg [],T + 1)] rfl hns rfl hinn (by
      intro p hp
      simp only [List.mem_cons,List.not_mem_nil,or_false] at hp
      rcases hp with rfl
      first | (left; rfl) | (right; exact ⟨Nat.succ_ne_zero _,Nat.add_lt_add_left (by decide) T⟩)) (by simp)).mono (Mine.bd hd rfl) (Mine.bd hu rfl)).conv (fun z=>⟨(⟨z.1,z.2.1⟩:{z:MI // DK w z.es (innF v (sg []) x0 (topsL 1 (sg [])) ns)}),rfl⟩)⟩,fun _ _ _ _ _=>trivial,fun z1 p2 w2 _ z4=>?_⟩)
  intro h' D' hN' hq
  refine ⟨hq,?_⟩
  refine loop_mm1 O hz hd hu hbest hgd want ?_ rest 1 (0 + 1) z4.1.k _ z4.1.y1 z4.1.y2 z4.1.f z4.1.es z4.1.e _ h' _ _ rfl rfl z4.2 hw hok2 (Rep.sub D') hN'
  intro j' k' x1' y1' y2' f' es' e1' h'' N' T' hk' D'' hN''
  exact ⟨⟨⟨es',e1',j',k',x1',y1',y2',f',N',T'⟩,hk'⟩,rfl,aft_plain (q:=⟨.next,[frM8 w.params ls 1 k' x0 gd x1' y1' y2' f',cel (some (.ref bd)),dob es e,dob es' e1',fds "dict_keyiterator" [.none,.int j' 0,.int (es.size:Nat) 0,.int (e:Nat) 0]],[],N',T'⟩) D'' rfl hN'' rfl⟩
theorem loop_mm2 {aF aC ls bd gd im:Addr} {x0:PySem.Str} {es:Array DictEntry} {e:Nat} {A:Around} {R:Result → Shared → Prop} {S:List Addr} {h₀:Heap} {g:Array GenState} {d:Drawn} {os:OsState}
    (hz:A.handled = none) (hd:A.depth ≤ 549) (hu:A.units ≤ 5490) {best:List (PySem.Str × Int)} (hbest:DK w es best) (hgd:(gd == sysModules) = false) (want:List (PySem.Str × Int))
    (hend:∀ j k x1 y1 y2 f es1 e1 h N T,DK w es1 want → Rep (cfg b w.params) S h₀ [(aF,frM8 w.params ls 2 k x0 gd x1 y1 y2 f),(aC,cel (some (.ref bd))),(bd,dob es e),(gd,dob es1 e1),(im,fds "dict_keyiterator" [.none,.int j 0,.int (es.size:Nat) 0,.int (e:Nat) 0])] h → h.objs.size = N → R (.ok .next) ⟨h,g,d,T,os⟩) :
    ∀ (rest:List (PySem.Str × Int)) (ii:Nat) (j:Int) (k:Nat → Tok) (x1 y1 y2:PySem.Str) (f:Int) (es1:Array DictEntry) (e1:Nat) (ns:List (PySem.Str × Int)) (h:Heap) (N T:Nat),j = ii → best.drop ii = rest → DK w es1 ns →
      midF 2 x0 rest ns = want → midOk 2 x0 rest ns = true → Rep (cfg b w.params) S h₀ [(aF,frM8 w.params ls 2 k x0 gd x1 y1 y2 f),(aC,cel (some (.ref bd))),(bd,dob es e),(gd,dob es1 e1),(im,fds "dict_keyiterator" [.ref bd,.int j 0,.int (es.size:Nat) 0,.int (e:Nat) 0])] h → h.objs.size = N → codeAny (model PG w) A (fl142M aF aC im) R ⟨h,g,d,T,os⟩
  | [],ii,j,k,x1,y1,y2,f,es1,e1,ns,h,N,T,hj,hr,hns,hw,hok,D,hN=>by
    have hget:best[ii]? = none:=by
      rw [List.drop_eq_nil_iff] at hr
      simpa using hr
    refine code_run O hz (mmz b w.params N T aF aC ls bd gd im k 0 0 0 x0 x1 y1 y2 j (es.size:Nat) f es es1 e e1 2 (fun _=>True) ⟨⟨#[],0,0,fun _=>0,x0,x0,0,0,0⟩,trivial⟩) D hN (HHx 1 ⟨⟨by decide,conDItE O hbest hj rfl hget⟩,fun _=>trivial,fun _=>?_⟩)
    intro h' D' hN' hq
    refine ⟨hq,block_nil (hend j k x1 y1 y2 f es1 e1 h' _ _ ?_ (Rep.sub D') hN')⟩
    rw [← hw]; exact hns
  | (⟨⟨cs⟩⟩,v) :: rest,ii,j,k,x1,y1,y2,f,es1,e1,ns,h,N,T,hj,hr,hns,hw,hok,D,hN=>by
    have hget:best[ii]? = some (⟨⟨cs⟩⟩,v):=by
      have:=congrArg List.head? hr
      simpa using this
    have hr':best.drop (ii + 1) = rest:=by
      have:=congrArg List.tail hr
      simpa using this
    rw [midOk,Bool.and_eq_true,Bool.and_eq_true,Bool.and_eq_true,decide_eq_true_eq] at hok
    obtain ⟨⟨⟨hlen,ha⟩,hinn⟩,hok2⟩:=hok
    obtain ⟨es0,hes0⟩:=dk_inn v ⟨⟨cs⟩⟩ x0 (topsL 2 ⟨⟨cs⟩⟩) es1 ns hns
    rcases cs with _ | ⟨c0,_ | ⟨c1,_ | ⟨c2,cs⟩⟩⟩
    · refine code_run O hz (mm20 b w.params N T aF aC ls bd gd im k 0 0 0 x0 x1 y1 y2 j (es.size:Nat) f es es1 e e1 2 (fun z=>DK w z.es (innF v (sg []) x0 (topsL 2 (sg [])) ns)) ⟨⟨es0,0,0,fun _=>0,x0,x0,0,0,0⟩,hes0⟩) D hN
        (HHx 3 ⟨⟨by decide,conDIt hbest hj rfl hget⟩,fun z1 p2 w2=>⟨by decide,conSIter ha⟩,fun z1 p2 w2 _=>⟨by decide,((con_mi8 (k:=(fun i=>match i with | 14=>z1 | i=>k i)) O hbest (hbest.look hget) hgd [(sg [],T + 1),(sg [],T + 1)] rfl hns rfl hinn (by
          intro p hp
          simp only [List.mem_cons,List.not_mem_nil,or_false] at hp
          rcases hp with rfl | rfl
          all_goals first | (left; rfl) | (right; exact ⟨Nat.succ_ne_zero _,Nat.add_lt_add_left (by decide) T⟩))).mono (Mine.bd hd rfl) (Mine.bd hu rfl)).conv (fun z=>⟨(⟨z.1,z.2.1⟩:{z:MI // DK w z.es (innF v (sg []) x0 (topsL 2 (sg [])) ns)}),rfl⟩)⟩,fun _ _ _ _ _=>trivial,fun z1 p2 w2 _ z4=>?_⟩)
      intro h' D' hN' hq
      refine ⟨hq,?_⟩
      exact loop_mm2 hz hd hu hbest hgd want hend rest (ii + 1) (j + 1) z4.1.k _ z4.1.y1 z4.1.y2 z4.1.f z4.1.es z4.1.e _ h' _ _ (by rw [hj]; rfl) hr' z4.2 hw hok2 (Rep.sub D') hN'
    · refine code_run O hz (mm21 b w.params N T aF aC ls bd gd im k c0 0 0 x0 x1 y1 y2 j (es.size:Nat) f es es1 e e1 2 (fun z=>DK w z.es (innF v (sg [c0]) x0 (topsL 2 (sg [c0])) ns)) ⟨⟨es0,0,0,fun _=>0,x0,x0,0,0,0⟩,hes0⟩) D hN
        (HHx 3 ⟨⟨by decide,conDIt hbest hj rfl hget⟩,fun z1 p2 w2=>⟨by decide,conSIter ha⟩,fun z1 p2 w2 _=>⟨by decide,((con_mi8 (k:=(fun i=>match i with | 14=>z1 | i=>k i)) O hbest (hbest.look hget) hgd [(sg [c0],T + 1),(sg [],T + 2)] rfl hns rfl hinn (by
          intro p hp
          simp only [List.mem_cons,List.not_mem_nil,or_false] at hp
          rcases hp with rfl | rfl
          all_goals first | (left; rfl) | (right; exact ⟨Nat.succ_ne_zero _,Nat.add_lt_add_left (by decide) T⟩))).mono (Mine.bd hd rfl) (Mine.bd hu rfl)).conv (fun z=>⟨(⟨z.1,z.2.1⟩:{z:MI // DK w z.es (innF v (sg [c0]) x0 (topsL 2 (sg [c0])) ns)}),rfl⟩)⟩,fun _ _ _ _ _=>trivial,fun z1 p2 w2 _ z4=>?_⟩)
      intro h' D' hN' hq
      refine ⟨hq,?_⟩
      exact loop_mm2 hz hd hu hbest hgd want hend rest (ii + 1) (j + 1) z4.1.k _ z4.1.y1 z4.1.y2 z4.1.f z4.1.es z4.1.e _ h' _ _ (by rw [hj]; rfl) hr' z4.2 hw hok2 (Rep.sub D') hN'
    · refine code_run O hz (mm22 b w.params N T aF aC ls bd gd im k c0 c1 0 x0 x1 y1 y2 j (es.size:Nat) f es es1 e e1 2 (fun z=>DK w z.es (innF v (sg [c0,c1]) x0 (topsL 2 (sg [c0,c1])) ns)) ⟨⟨es0,0,0,fun _=>0,x0,x0,0,0,0⟩,hes0⟩) D hN
        (HHx 3 ⟨⟨by decide,conDIt hbest hj rfl hget⟩,fun z1 p2 w2=>⟨by decide,conSIter ha⟩,fun z1 p2 w2 _=>⟨by decide,((con_mi8 (k:=(fun i=>match i with | 14=>z1 | i=>k i)) O hbest (hbest.look hget) hgd [(sg [c0],T + 1),(sg [c1],T + 2)] rfl hns rfl hinn (by
          intro p hp
          simp only [List.mem_cons,List.not_mem_nil,or_false] at hp
          rcases hp with rfl | rfl
          all_goals first | (left; rfl) | (right; exact ⟨Nat.succ_ne_zero _,Nat.add_lt_add_left (by decide) T⟩))).mono (Mine.bd hd rfl) (Mine.bd hu rfl)).conv (fun z=>⟨(⟨z.1,z.2.1⟩:{z:MI // DK w z.es (innF v (sg [c0,c1]) x0 (topsL 2 (sg [c0,c1])) ns)}),rfl⟩)⟩,fun _ _ _ _ _=>trivial,fun z1 p2 w2 _ z4=>?_⟩)
      intro h' D' hN' hq
      refine ⟨hq,?_⟩
      exact loop_mm2 hz hd hu hbest hgd want hend rest (ii + 1) (j + 1) z4.1.k _ z4.1.y1 z4.1.y2 z4.1.f z4.1.es z4.1.e _ h' _ _ (by rw [hj]; rfl) hr' z4.2 hw hok2 (Rep.sub D') hN'
    · simp at hlen
theorem con_mm8_2 {aF aC ls bd gd im:Addr} {x0:PySem.Str} {es es1:Array DictEntry} {e e1 N T:Nat} {k:Nat → Tok} {x1 y1 y2:PySem.Str} {f:Int} {best:List (PySem.Str × Int)} (hbest:DK w es best) (hgd:(gd == sysModules) = false) {want ns:List (PySem.Str × Int)} (hns:DK w es1 ns) (hw:midF 2 x0 best ns = want) (hok:midOk 2 x0 best ns = true) :
    CG w b 549 5490 (fl142M aF aC im) [(aF,frM8 w.params ls 2 k x0 gd x1 y1 y2 f),(aC,cel (some (.ref bd))),(bd,dob es e),(gd,dob es1 e1),(im,fds "dict_keyiterator" [.ref bd,.int 0 0,.int (es.size:Nat) 0,.int (e:Nat) 0])] N T
      (fun z:{z:MM // DK w z.es want}=>⟨.next,[frM8 w.params ls 2 z.1.k x0 gd z.1.x1 z.1.y1 z.1.y2 z.1.f,cel (some (.ref bd)),dob es e,dob z.1.es z.1.e,fds "dict_keyiterator" [.none,.int z.1.j 0,.int (es.size:Nat) 0,.int (e:Nat) 0]],[],z.1.N,z.1.T⟩):=by
  refine coni fun A h g dr os G hz hd hu D hN hG=>?_
  refine hG ?_
  refine loop_mm2 O hz hd hu hbest hgd want ?_ best 0 0 k x1 y1 y2 f es1 e1 ns h N T rfl rfl hns hw hok D hN
  intro j' k' x1' y1' y2' f' es' e1' h'' N' T' hk' D'' hN''
  exact ⟨⟨⟨es',e1',j',k',x1',y1',y2',f',N',T'⟩,hk'⟩,rfl,aft_plain (q:=⟨.next,[frM8 w.params ls 2 k' x0 gd x1' y1' y2' f',cel (some (.ref bd)),dob es e,dob es' e1',fds "dict_keyiterator" [.none,.int j' 0,.int (es.size:Nat) 0,.int (e:Nat) 0]],[],N',T'⟩) D'' rfl hN'' rfl⟩
theorem con_mm4_2 {aF aC ls bd gd im:Addr} {x0:PySem.Str} {es es1:Array DictEntry} {e e1 N T:Nat} {k:Nat → Tok} {v:Int} {rest:List (PySem.Str × Int)} (hbest:DK w es ((sg [],v) :: rest)) (hgd:(gd == sysModules) = false) {want ns:List (PySem.Str × Int)} (hns:DK w es1 ns) (hw:midF 2 x0 ((sg [],v) :: rest) ns = want) (hok:midOk 2 x0 ((sg [],v) :: rest) ns = true) :
    CG w b 549 5490 (fl142M aF aC im) [(aF,frM4 w.params ls 2 k x0 gd),(aC,cel (some (.ref bd))),(bd,dob es e),(gd,dob es1 e1),(im,fds "dict_keyiterator" [.ref bd,.int 0 0,.int (es.size:Nat) 0,.int (e:Nat) 0])] N T
      (fun z:{z:MM // DK w z.es want}=>⟨.next,[frM8 w.params ls 2 z.1.k x0 gd z.1.x1 z.1.y1 z.1.y2 z.1.f,cel (some (.ref bd)),dob es e,dob z.1.es z.1.e,fds "dict_keyiterator" [.none,.int z.1.j 0,.int (es.size:Nat) 0,.int (e:Nat) 0]],[],z.1.N,z.1.T⟩):=by
  intro A s hz hd hu ht hh nd off hN hT
  obtain ⟨h,g,dr,T,os⟩:=s
  have hT2:T = _:=hT
  subst hT2
  have D:=rep_start (C:=cfg b w.params) ht hh nd off
  have hget:((sg [],v) :: rest)[0]? = some (sg [],v):=rfl
  have hj:(0:Int) = ((0:Nat):Int):=rfl
  have hok':=hok
  rw [midOk,Bool.and_eq_true,Bool.and_eq_true,Bool.and_eq_true,decide_eq_true_eq] at hok'
  obtain ⟨⟨⟨hlen,ha⟩,hinn⟩,hok2⟩:=hok'
  obtain ⟨es0,hes0⟩:=dk_inn v (sg []) x0 (topsL 2 (sg [])) es1 ns hns
  refine code_run O hz (mf2 b w.params N T aF aC ls bd gd im k 0 0 0 x0 x0 x0 x0 0 (es.size:Nat) 0 es es1 e e1 2 (fun z=>DK w z.es (innF v (sg []) x0 (topsL 2 (sg [])) ns)) ⟨⟨es0,0,0,fun _=>0,x0,x0,0,0,0⟩,hes0⟩) D hN
    (HHx 3 ⟨⟨by decide,conDIt hbest hj rfl hget⟩,fun z1 p2 w2=>⟨by decide,conSIter ha⟩,fun z1 p2 w2 _=>⟨by decide,((con_mi5 (k:=(fun i=>match i with | 4=>T | 14=>z1 | i=>k i)) O hbest (hbest.look hget) hgd [(sg [],T + 1),(sg [],T + 1)] rfl hns rfl hinn (by
      intro p hp
      simp only [List.mem_cons,List.not_mem_nil,or_false] at hp
      rcases hp with rfl | rfl
      all_goals first | (left; rfl) | (right; exact ⟨Nat.succ_ne_zero _,Nat.add_lt_add_left (by decide) T⟩)) (by simp)).mono (Mine.bd hd rfl) (Mine.bd hu rfl)).conv (fun z=>⟨(⟨z.1,z.2.1⟩:{z:MI // DK w z.es (innF v (sg []) x0 (topsL 2 (sg [])) ns)}),rfl⟩)⟩,fun _ _ _ _ _=>trivial,fun z1 p2 w2 _ z4=>?_⟩)
  intro h' D' hN' hq
  refine ⟨hq,?_⟩
  refine loop_mm2 O hz hd hu hbest hgd want ?_ rest 1 (0 + 1) z4.1.k _ z4.1.y1 z4.1.y2 z4.1.f z4.1.es z4.1.e _ h' _ _ rfl rfl z4.2 hw hok2 (Rep.sub D') hN'
  intro j' k' x1' y1' y2' f' es' e1' h'' N' T' hk' D'' hN''
  exact ⟨⟨⟨es',e1',j',k',x1',y1',y2',f',N',T'⟩,hk'⟩,rfl,aft_plain (q:=⟨.next,[frM8 w.params ls 2 k' x0 gd x1' y1' y2' f',cel (some (.ref bd)),dob es e,dob es' e1',fds "dict_keyiterator" [.none,.int j' 0,.int (es.size:Nat) 0,.int (e:Nat) 0]],[],N',T'⟩) D'' rfl hN'' rfl⟩
theorem loop_mm3 {aF aC ls bd gd im:Addr} {x0:PySem.Str} {es:Array DictEntry} {e:Nat} {A:Around} {R:Result → Shared → Prop} {S:List Addr} {h₀:Heap} {g:Array GenState} {d:Drawn} {os:OsState}
    (hz:A.handled = none) (hd:A.depth ≤ 549) (hu:A.units ≤ 5490) {best:List (PySem.Str × Int)} (hbest:DK w es best) (hgd:(gd == sysModules) = false) (want:List (PySem.Str × Int))
    (hend:∀ j k x1 y1 y2 f es1 e1 h N T,DK w es1 want → Rep (cfg b w.params) S h₀ [(aF,frM8 w.params ls 3 k x0 gd x1 y1 y2 f),(aC,cel (some (.ref bd))),(bd,dob es e),(gd,dob es1 e1),(im,fds "dict_keyiterator" [.none,.int j 0,.int (es.size:Nat) 0,.int (e:Nat) 0])] h → h.objs.size = N → R (.ok .next) ⟨h,g,d,T,os⟩) :
    ∀ (rest:List (PySem.Str × Int)) (ii:Nat) (j:Int) (k:Nat → Tok) (x1 y1 y2:PySem.Str) (f:Int) (es1:Array DictEntry) (e1:Nat) (ns:List (PySem.Str × Int)) (h:Heap) (N T:Nat),j = ii → best.drop ii = rest → DK w es1 ns →
      midF 3 x0 rest ns = want → midOk 3 x0 rest ns = true → Rep (cfg b w.params) S h₀ [(aF,frM8 w.params ls 3 k x0 gd x1 y1 y2 f),(aC,cel (some (.ref bd))),(bd,dob es e),(gd,dob es1 e1),(im,fds "dict_keyiterator" [.ref bd,.int j 0,.int (es.size:Nat) 0,.int (e:Nat) 0])] h → h.objs.size = N → codeAny (model PG w) A (fl142M aF aC im) R ⟨h,g,d,T,os⟩
  | [],ii,j,k,x1,y1,y2,f,es1,e1,ns,h,N,T,hj,hr,hns,hw,hok,D,hN=>by
    have hget:best[ii]? = none:=by
      rw [List.drop_eq_nil_iff] at hr
      simpa using hr
    refine code_run O hz (mmz b w.params N T aF aC ls bd gd im k 0 0 0 x0 x1 y1 y2 j (es.size:Nat) f es es1 e e1 3 (fun _=>True) ⟨⟨#[],0,0,fun _=>0,x0,x0,0,0,0⟩,trivial⟩) D hN (HHx 1 ⟨⟨by decide,conDItE O hbest hj rfl hget⟩,fun _=>trivial,fun _=>?_⟩)
    intro h' D' hN' hq
    refine ⟨hq,block_nil (hend j k x1 y1 y2 f es1 e1 h' _ _ ?_ (Rep.sub D') hN')⟩
    rw [← hw]; exact hns
  | (⟨⟨cs⟩⟩,v) :: rest,ii,j,k,x1,y1,y2,f,es1,e1,ns,h,N,T,hj,hr,hns,hw,hok,D,hN=>by
    have hget:best[ii]? = some (⟨⟨cs⟩⟩,v):=by
      have:=congrArg List.head? hr
      simpa using this
    have hr':best.drop (ii + 1) = rest:=by
      have:=congrArg List.tail hr
      simpa using this
    rw [midOk,Bool.and_eq_true,Bool.and_eq_true,Bool.and_eq_true,decide_eq_true_eq] at hok
    obtain ⟨⟨⟨hlen,ha⟩,hinn⟩,hok2⟩:=hok
    obtain ⟨es0,hes0⟩:=dk_inn v ⟨⟨cs⟩⟩ x0 (topsL 3 ⟨⟨cs⟩⟩) es1 ns hns
    rcases cs with _ | ⟨c0,_ | ⟨c1,_ | ⟨c2,_ | ⟨c3,cs⟩⟩⟩⟩
    · refine code_run O hz (mm30 b w.params N T aF aC ls bd gd im k 0 0 0 x0 x1 y1 y2 j (es.size:Nat) f es es1 e e1 3 (fun z=>DK w z.es (innF v (sg []) x0 (topsL 3 (sg [])) ns)) ⟨⟨es0,0,0,fun _=>0,x0,x0,0,0,0⟩,hes0⟩) D hN
        (HHx 3 ⟨⟨by decide,conDIt hbest hj rfl hget⟩,fun z1 p2 w2=>⟨by decide,conSIter ha⟩,fun z1 p2 w2 _=>⟨by decide,((con_mi8 (k:=(fun i=>match i with | 14=>z1 | i=>k i)) O hbest (hbest.look hget) hgd [(sg [],T + 1),(sg [],T + 1),(sg [],T + 1)] rfl hns rfl hinn (by
          intro p hp
          simp only [List.mem_cons,List.not_mem_nil,or_false] at hp
          rcases hp with rfl | rfl | rfl
          all_goals first | (left; rfl) | (right; exact ⟨Nat.succ_ne_zero _,Nat.add_lt_add_left (by decide) T⟩))).mono (Mine.bd hd rfl) (Mine.bd hu rfl)).conv (fun z=>⟨(⟨z.1,z.2.1⟩:{z:MI // DK w z.es (innF v (sg []) x0 (topsL 3 (sg [])) ns)}),rfl⟩)⟩,fun _ _ _ _ _=>trivial,fun z1 p2 w2 _ z4=>?_⟩)
      intro h' D' hN' hq
      refine ⟨hq,?_⟩
      exact loop_mm3 hz hd hu hbest hgd want hend rest (ii + 1) (j + 1) z4.1.k _ z4.1.y1 z4.1.y2 z4.1.f z4.1.es z4.1.e _ h' _ _ (by rw [hj]; rfl) hr' z4.2 hw hok2 (Rep.sub D') hN'
    · refine code_run O hz (mm31 b w.params N T aF aC ls bd gd im k c0 0 0 x0 x1 y1 y2 j (es.size:Nat) f es es1 e e1 3 (fun z=>DK w z.es (innF v (sg [c0]) x0 (topsL 3 (sg [c0])) ns)) ⟨⟨es0,0,0,fun _=>0,x0,x0,0,0,0⟩,hes0⟩) D hN
        (HHx 3 ⟨⟨by decide,conDIt hbest hj rfl hget⟩,fun z1 p2 w2=>⟨by decide,conSIter ha⟩,fun z1 p2 w2 _=>⟨by decide,((con_mi8 (k:=(fun i=>match i with | 14=>z1 | i=>k i)) O hbest (hbest.look hget) hgd [(sg [c0],T + 1),(sg [],T + 2),(sg [],T + 2)] rfl hns rfl hinn (by
          intro p hp
          simp only [List.mem_cons,List.not_mem_nil,or_false] at hp
          rcases hp with rfl | rfl | rfl
          all_goals first | (left; rfl) | (right; exact ⟨Nat.succ_ne_zero _,Nat.add_lt_add_left (by decide) T⟩))).mono (Mine.bd hd rfl) (Mine.bd hu rfl)).conv (fun z=>⟨(⟨z.1,z.2.1⟩:{z:MI // DK w z.es (innF v (sg [c0]) x0 (topsL 3 (sg [c0])) ns)}),rfl⟩)⟩,fun _ _ _ _ _=>trivial,fun z1 p2 w2 _ z4=>?_⟩)
      intro h' D' hN' hq
      refine ⟨hq,?_⟩
      exact loop_mm3 hz hd hu hbest hgd want hend rest (ii + 1) (j + 1) z4.1.k _ z4.1.y1 z4.1.y2 z4.1.f z4.1.es z4.1.e _ h' _ _ (by rw [hj]; rfl) hr' z4.2 hw hok2 (Rep.sub D') hN'
    · refine code_run O hz (mm32 b w.params N T aF aC ls bd gd im k c0 c1 0 x0 x1 y1 y2 j (es.size:Nat) f es es1 e e1 3 (fun z=>DK w z.es (innF v (sg [c0,c1]) x0 (topsL 3 (sg [c0,c1])) ns)) ⟨⟨es0,0,0,fun _=>0,x0,x0,0,0,0⟩,hes0⟩) D hN
        (HHx 3 ⟨⟨by decide,conDIt hbest hj rfl hget⟩,fun z1 p2 w2=>⟨by decide,conSIter ha⟩,fun z1 p2 w2 _=>⟨by decide,((con_mi8 (k:=(fun i=>match i with | 14=>z1 | i=>k i)) O hbest (hbest.look hget) hgd [(sg [c0],T + 1),(sg [c1],T + 2),(sg [],T + 3)] rfl hns rfl hinn (by
          intro p hp
          simp only [List.mem_cons,List.not_mem_nil,or_false] at hp
          rcases hp with rfl | rfl | rfl
          all_goals first | (left; rfl) | (right; exact ⟨Nat.succ_ne_zero _,Nat.add_lt_add_left (by decide) T⟩))).mono (Mine.bd hd rfl) (Mine.bd hu rfl)).conv (fun z=>⟨(⟨z.1,z.2.1⟩:{z:MI // DK w z.es (innF v (sg [c0,c1]) x0 (topsL 3 (sg [c0,c1])) ns)}),rfl⟩)⟩,fun _ _ _ _ _=>trivial,fun z1 p2 w2 _ z4=>?_⟩)
      intro h' D' hN' hq
      refine ⟨hq,?_⟩
      exact loop_mm3 hz hd hu hbest hgd want hend rest (ii + 1) (j + 1) z4.1.k _ z4.1.y1 z4.1.y2 z4.1.f z4.1.es z4.1.e _ h' _ _ (by rw [hj]; rfl) hr' z4.2 hw hok2 (Rep.sub D') hN'
    · refine code_run O hz (mm33 b w.params N T aF aC ls bd gd im k c0 c1 c2 x0 x1 y1 y2 j (es.size:Nat) f es es1 e e1 3 (fun z=>DK w z.es (innF v (sg [c0,c1,c2]) x0 (topsL 3 (sg [c0,c1,c2])) ns)) ⟨⟨es0,0,0,fun _=>0,x0,x0,0,0,0⟩,hes0⟩) D hN
        (HHx 3 ⟨⟨by decide,conDIt hbest hj rfl hget⟩,fun z1 p2 w2=>⟨by decide,conSIter ha⟩,fun z1 p2 w2 _=>⟨by decide,((con_mi8 (k:=(fun i=>match i with | 14=>z1 | i=>k i)) O hbest (hbest.look hget) hgd [(sg [c0],T + 1),(sg [c1],T + 2),(sg [c2],T + 3)] rfl hns rfl hinn (by
          intro p hp
          simp only [List.mem_cons,List.not_mem_nil,or_false] at hp
          rcases hp with rfl | rfl | rfl
          all_goals first | (left; rfl) | (right; exact ⟨Nat.succ_ne_zero _,Nat.add_lt_add_left (by decide) T⟩))).mono (Mine.bd hd rfl) (Mine.bd hu rfl)).conv (fun z=>⟨(⟨z.1,z.2.1⟩:{z:MI // DK w z.es (innF v (sg [c0,c1,c2]) x0 (topsL 3 (sg [c0,c1,c2])) ns)}),rfl⟩)⟩,fun _ _ _ _ _=>trivial,fun z1 p2 w2 _ z4=>?_⟩)
      intro h' D' hN' hq
      refine ⟨hq,?_⟩
      exact loop_mm3 hz hd hu hbest hgd want hend rest (ii + 1) (j + 1) z4.1.k _ z4.1.y1 z4.1.y2 z4.1.f z4.1.es z4.1.e _ h' _ _ (by rw [hj]; rfl) hr' z4.2 hw hok2 (Rep.sub D') hN'
    · simp at hlen
theorem con_mm8_3 {aF aC ls bd gd im:Addr} {x0:PySem.Str} {es es1:Array DictEntry} {e e1 N T:Nat} {k:Nat → Tok} {x1 y1 y2:PySem.Str} {f:Int} {best:List (PySem.Str × Int)} (hbest:DK w es best) (hgd:(gd == sysModules) = false) {want ns:List (PySem.Str × Int)} (hns:DK w es1 ns) (hw:midF 3 x0 best ns = want) (hok:midOk 3 x0 best ns = true) :
    CG w b 549 5490 (fl142M aF aC im) [(aF,frM8 w.params ls 3 k x0 gd x1 y1 y2 f),(aC,cel (some (.ref bd))),(bd,dob es e),(gd,dob es1 e1),(im,fds "dict_keyiterator" [.ref bd,.int 0 0,.int (es.size:Nat) 0,.int (e:Nat) 0])] N T
      (fun z:{z:MM // DK w z.es want}=>⟨.next,[frM8 w.params ls 3 z.1.k x0 gd z.1.x1 z.1.y1 z.1.y2 z.1.f,cel (some (.ref bd)),dob es e,dob z.1.es z.1.e,fds "dict_keyiterator" [.none,.int z.1.j 0,.int (es.size:Nat) 0,.int (e:Nat) 0]],[],z.1.N,z.1.T⟩):=by
  refine coni fun A h g dr os G hz hd hu D hN hG=>?_
  refine hG ?_
  refine loop_mm3 O hz hd hu hbest hgd want ?_ best 0 0 k x1 y1 y2 f es1 e1 ns h N T rfl rfl hns hw hok D hN
  intro j' k' x1' y1' y2' f' es' e1' h'' N' T' hk' D'' hN''
  exact ⟨⟨⟨es',e1',j',k',x1',y1',y2',f',N',T'⟩,hk'⟩,rfl,aft_plain (q:=⟨.next,[frM8 w.params ls 3 k' x0 gd x1' y1' y2' f',cel (some (.ref bd)),dob es e,dob es' e1',fds "dict_keyiterator" [.none,.int j' 0,.int (es.size:Nat) 0,.int (e:Nat) 0]],[],N',T'⟩) D'' rfl hN'' rfl⟩
theorem con_mm4_3 {aF aC ls bd gd im:Addr} {x0:PySem.Str} {es es1:Array DictEntry} {e e1 N T:Nat} {k:Nat → Tok} {v:Int} {rest:List (PySem.Str × Int)} (hbest:DK w es ((sg [],v) :: rest)) (hgd:(gd == sysModules) = false) {want ns:List (PySem.Str × Int)} (hns:DK w es1 ns) (hw:midF 3 x0 ((sg [],v) :: rest) ns = want) (hok:midOk 3 x0 ((sg [],v) :: rest) ns = true) :
    CG w b 549 5490 (fl142M aF aC im) [(aF,frM4 w.params ls 3 k x0 gd),(aC,cel (some (.ref bd))),(bd,dob es e),(gd,dob es1 e1),(im,fds "dict_keyiterator" [.ref bd,.int 0 0,.int (es.size:Nat) 0,.int (e:Nat) 0])] N T
      (fun z:{z:MM // DK w z.es want}=>⟨.next,[frM8 w.params ls 3 z.1.k x0 gd z.1.x1 z.1.y1 z.1.y2 z.1.f,cel (some (.ref bd)),dob es e,dob z.1.es z.1.e,fds "dict_keyiterator" [.none,.int z.1.j 0,.int (es.size:Nat) 0,.int (e:Nat) 0]],[],z.1.N,z.1.T⟩):=by
  intro A s hz hd hu ht hh nd off hN hT
  obtain ⟨h,g,dr,T,os⟩:=s
  have hT2:T = _:=hT
  subst hT2
  have D:=rep_start (C:=cfg b w.params) ht hh nd off
  have hget:((sg [],v) :: rest)[0]? = some (sg [],v):=rfl
  have hj:(0:Int) = ((0:Nat):Int):=rfl
  have hok':=hok
  rw [midOk,Bool.and_eq_true,Bool.and_eq_true,Bool.and_eq_true,decide_eq_true_eq] at hok'
  obtain ⟨⟨⟨hlen,ha⟩,hinn⟩,hok2⟩:=hok'
  obtain ⟨es0,hes0⟩:=dk_inn v (sg []) x0 (topsL 3 (sg [])) es1 ns hns
  refine code_run O hz (mf3 b w.params N T aF aC ls bd gd im k 0 0 0 x0 x0 x0 x0 0 (es.size:Nat) 0 es es1 e e1 3 (fun z=>DK w z.es (innF v (sg []) x0 (topsL 3 (sg [])) ns)) ⟨⟨es0,0,0,fun _=>0,x0,x0,0,0,0⟩,hes0⟩) D hN
    (HHx 3 ⟨⟨by decide,conDIt hbest hj rfl hget⟩,fun z1 p2 w2=>⟨by decide,conSIter ha⟩,fun z1 p2 w2 _=>⟨by decide,((con_mi5 (k:=(fun i=>match i with | 4=>T | 14=>z1 | i=>k i)) O hbest (hbest.look hget) hgd [(sg [],T + 1),(sg [],T + 1),(sg [],T + 1)] rfl hns rfl hinn (by
      intro p hp
      simp only [List.mem_cons,List.not_mem_nil,or_false] at hp
      rcases hp with rfl | rfl | rfl
      all_goals first | (left; rfl) | (right; exact ⟨Nat.succ_ne_zero _,Nat.add_lt_add_left (by decide) T⟩)) (by simp)).mono (Mine.bd hd rfl) (Mine.bd hu rfl)).conv (fun z=>⟨(⟨z.1,z.2.1⟩:{z:MI // DK w z.es (innF v (sg []) x0 (topsL 3 (sg [])) ns)}),rfl⟩)⟩,fun _ _ _ _ _=>trivial,fun z1 p2 w2 _ z4=>?_⟩)
  intro h' D' hN' hq
  refine ⟨hq,?_⟩
  refine loop_mm3 O hz hd hu hbest hgd want ?_ rest 1 (0 + 1) z4.1.k _ z4.1.y1 z4.1.y2 z4.1.f z4.1.es z4.1.e _ h' _ _ rfl rfl z4.2 hw hok2 (Rep.sub D') hN'
  intro j' k' x1' y1' y2' f' es' e1' h'' N' T' hk' D'' hN''
  exact ⟨⟨⟨es',e1',j',k',x1',y1',y2',f',N',T'⟩,hk'⟩,rfl,aft_plain (q:=⟨.next,[frM8 w.params ls 3 k' x0 gd x1' y1' y2' f',cel (some (.ref bd)),dob es e,dob es' e1',fds "dict_keyiterator" [.none,.int j' 0,.int (es.size:Nat) 0,.int (e:Nat) 0]],[],N',T'⟩) D'' rfl hN'' rfl⟩
end
end
end Mine
end
section
namespace Mine
section
variable (b:Bool) (P:Params) (N T:Nat)
theorem mo2 (aF aC ls bd gd io:Addr) (k:Nat → Tok) (x0 x1 x2 x6 x7:Str) (t10:Tok) (i rm f0:Int) (vs:List Value) (es:Array DictEntry) (e e2:Nat) (b0:Addr) (o0:Obj) (GM:MM → Prop) (gm0:{z:MM // GM z}):Sg b P 48 [4,4,1,1,1,1,2,5,5,5,7,1,2,2] [0,1,0,1,1] (fl142O aF aC io) [(aF,(frm P [(J3,(k 0),(.ref ls)),(J0,(k 1),(.int rm (k 11)))] 2)),(aC,(cel (some (.ref bd)))),(ls,(lst vs e2)),(io,(LI [(.ref ls),(.int i 0)])),(bd,(dob es e))] N T (.ask Unit ⟨(.builtin "list_iterator.__next__" ⟨[(.ref io)],[]⟩),0,0,[(io,(LI [(.ref ls),(.int i 0)])),(ls,(lst vs e2))],N,T⟩ [3,2] (fun z1=>⟨(.ret (.str x2 t10)),[(LI [(.ref ls),(.int (i + 1) 0)]),(lst vs e2)],[],N,T⟩) fun z1=>.ask Unit ⟨(.builtin "dict.__iter__" ⟨[(.ref bd)],[]⟩),0,0,[(bd,(dob es e))],(N + 1),(T + 2)⟩ [4] (fun z2=>⟨(.ret (.ref (N + 1))),[(dob es e)],[((N + 1),(fds "dict_keyiterator" [(.ref bd),(.int 0 0),(.int (es.size:Nat) 0),(.int (e:Nat) 0)]))],(N + 2),(T + 2)⟩) fun z2=>.ask {z:MM // GM z} ⟨(fl142M aF aC (N + 1)),0,0,[(aF,(frm P [(J3,(k 0),(.ref ls)),(J0,(k 1),(.int rm (k 11))),(J2,T,(.str x2 t10)),(J9,(T + 1),(.ref N))] 4)),(aC,(cel (some (.ref bd)))),(bd,(dob es e)),(N,(dob #[] 0)),((N + 1),(fds "dict_keyiterator" [(.ref bd),(.int 0 0),(.int (es.size:Nat) 0),(.int (e:Nat) 0)]))],(N + 2),(T + 2)⟩ [0,1,4,5,6] (fun z3=>⟨.next,[(frM8 P ls rm z3.1.k x2 N z3.1.x1 z3.1.y1 z3.1.y2 z3.1.f),(cel (some (.ref bd))),(dob es e),(dob z3.1.es z3.1.e),(fds "dict_keyiterator" [.none,(.int z3.1.j 0),(.int (es.size:Nat) 0),(.int (e:Nat) 0)])],[],z3.1.N,z3.1.T⟩) fun z3=>.fin (.ok (.again (fl142O aF aC io))) [(aF,(frM8 P ls rm z3.1.k x2 N z3.1.x1 z3.1.y1 z3.1.y2 z3.1.f)),(aC,(cel (some (.ref N)))),(ls,(lst vs e2)),(io,(LI [(.ref ls),(.int (i + 1) 0)])),(bd,(dob es e)),(N,(dob z3.1.es z3.1.e)),((N + 1),(fds "dict_keyiterator" [.none,(.int z3.1.j 0),(.int (es.size:Nat) 0),(.int (e:Nat) 0)]))] z3.1.N z3.1.T):=fx 3 ⟨⟨()⟩,fun z1=>⟨()⟩,fun z1 z2=>⟨gm0⟩,fun z1 z2 z3=>trivial⟩ (by kernel_rfl)
theorem mo8 (aF aC ls bd gd io:Addr) (k:Nat → Tok) (x0 x1 x2 x6 x7:Str) (t10:Tok) (i rm f0:Int) (vs:List Value) (es:Array DictEntry) (e e2:Nat) (b0:Addr) (o0:Obj) (GM:MM → Prop) (gm0:{z:MM // GM z}):Sg b P 48 [4,4,1,1,1,1,2,6,6,6,8,1,2,2] [0,1,0,1,1] (fl142O aF aC io) [(aF,(frm P [(J3,(k 0),(.ref ls)),(J0,(k 1),(.int rm (k 11))),(J2,(k 2),(.str x0 (k 12))),(J9,(k 3),(.ref gd)),(J13,(k 4),(.str x1 (k 14))),(J16,(k 5),(.str x6 (k 15))),(J11,(k 6),(.str x7 (k 16))),(J1,(k 7),(.int f0 (k 17)))] 8)),(aC,(cel (some (.ref bd)))),(ls,(lst vs e2)),(io,(LI [(.ref ls),(.int i 0)])),(b0,o0),(bd,(dob es e))] N T (.ask Unit ⟨(.builtin "list_iterator.__next__" ⟨[(.ref io)],[]⟩),0,0,[(io,(LI [(.ref ls),(.int i 0)])),(ls,(lst vs e2))],N,T⟩ [3,2] (fun z1=>⟨(.ret (.str x2 t10)),[(LI [(.ref ls),(.int (i + 1) 0)]),(lst vs e2)],[],N,T⟩) fun z1=>.ask Unit ⟨(.builtin "dict.__iter__" ⟨[(.ref bd)],[]⟩),0,0,[(bd,(dob es e))],(N + 1),(T + 2)⟩ [5] (fun z2=>⟨(.ret (.ref (N + 1))),[(dob es e)],[((N + 1),(fds "dict_keyiterator" [(.ref bd),(.int 0 0),(.int (es.size:Nat) 0),(.int (e:Nat) 0)]))],(N + 2),(T + 2)⟩) fun z2=>.ask {z:MM // GM z} ⟨(fl142M aF aC (N + 1)),0,0,[(aF,(frm P [(J3,(k 0),(.ref ls)),(J0,(k 1),(.int rm (k 11))),(J2,(k 2),(.str x2 t10)),(J9,(k 3),(.ref N)),(J13,(k 4),(.str x1 (k 14))),(J16,(k 5),(.str x6 (k 15))),(J11,(k 6),(.str x7 (k 16))),(J1,(k 7),(.int f0 (k 17)))] 8)),(aC,(cel (some (.ref bd)))),(bd,(dob es e)),(N,(dob #[] 0)),((N + 1),(fds "dict_keyiterator" [(.ref bd),(.int 0 0),(.int (es.size:Nat) 0),(.int (e:Nat) 0)]))],(N + 2),(T + 2)⟩ [0,1,5,6,7] (fun z3=>⟨.next,[(frM8 P ls rm z3.1.k x2 N z3.1.x1 z3.1.y1 z3.1.y2 z3.1.f),(cel (some (.ref bd))),(dob es e),(dob z3.1.es z3.1.e),(fds "dict_keyiterator" [.none,(.int z3.1.j 0),(.int (es.size:Nat) 0),(.int (e:Nat) 0)])],[],z3.1.N,z3.1.T⟩) fun z3=>.fin (.ok (.again (fl142O aF aC io))) [(aF,(frM8 P ls rm z3.1.k x2 N z3.1.x1 z3.1.y1 z3.1.y2 z3.1.f)),(aC,(cel (some (.ref N)))),(ls,(lst vs e2)),(io,(LI [(.ref ls),(.int (i + 1) 0)])),(b0,o0),(bd,(dob es e)),(N,(dob z3.1.es z3.1.e)),((N + 1),(fds "dict_keyiterator" [.none,(.int z3.1.j 0),(.int (es.size:Nat) 0),(.int (e:Nat) 0)]))] z3.1.N z3.1.T):=fx 3 ⟨⟨()⟩,fun z1=>⟨()⟩,fun z1 z2=>⟨gm0⟩,fun z1 z2 z3=>trivial⟩ (by kernel_rfl)
theorem moz (aF aC ls bd gd io:Addr) (k:Nat → Tok) (x0 x1 x2 x6 x7:Str) (t10:Tok) (i rm f0:Int) (vs:List Value) (es:Array DictEntry) (e e2:Nat) (b0:Addr) (o0:Obj) (GM:MM → Prop) (gm0:{z:MM // GM z}):Sg b P 12 [4,4,8] [0,1] (fl142O aF aC io) [(aF,(frm P [(J3,(k 0),(.ref ls)),(J0,(k 1),(.int rm (k 11))),(J2,(k 2),(.str x0 (k 12))),(J9,(k 3),(.ref gd)),(J13,(k 4),(.str x1 (k 14))),(J16,(k 5),(.str x6 (k 15))),(J11,(k 6),(.str x7 (k 16))),(J1,(k 7),(.int f0 (k 17)))] 8)),(aC,(cel (some (.ref bd)))),(ls,(lst vs e2)),(io,(LI [(.ref ls),(.int i 0)])),(b0,o0),(bd,(dob es e))] N T (.ask Unit ⟨(.builtin "list_iterator.__next__" ⟨[(.ref io)],[]⟩),0,0,[(io,(LI [(.ref ls),(.int i 0)])),(ls,(lst vs e2))],N,T⟩ [3,2] (fun z1=>⟨(.err (.ref (N + 1))),[(LI [.none,(.int i 0)]),(lst vs e2)],[(N,(tup [] 0)),((N + 1),(fds "StopIteration" [(.ref N),.none,.none,.none,(.bool false),.none]))],(N + 2),T⟩) fun z1=>.fin (.ok (.again (bl142 aF aC))) [(aF,(frm P [(J3,(k 0),(.ref ls)),(J0,(k 1),(.int rm (k 11))),(J2,(k 2),(.str x0 (k 12))),(J9,(k 3),(.ref gd)),(J13,(k 4),(.str x1 (k 14))),(J16,(k 5),(.str x6 (k 15))),(J11,(k 6),(.str x7 (k 16))),(J1,(k 7),(.int f0 (k 17)))] 8)),(aC,(cel (some (.ref bd)))),(ls,(lst vs e2)),(io,(LI [.none,(.int i 0)])),(b0,o0),(bd,(dob es e)),(N,(tup [] 0)),((N + 1),(fds "StopIteration" [(.ref N),.none,.none,.none,(.bool false),.none]))] (N + 2) T):=fx 1 ⟨⟨()⟩,fun z1=>trivial⟩ (by kernel_rfl)
theorem mb (aF aC ls:Addr) (k:Nat → Tok) (rm:Int) (vs:List Value) (e2:Nat) (mx:Int) (GO:MO → Prop) (go0:{z:MO // GO z}) (GC:MO → CO → Prop) (gc0:(z:MO) → {y:CO // GC z y}):Sg b P 70 [4,4,4,4,2,2,1,3,3,3,5,0,0,2,6,6,6,7,9,9,9] [0,0,0,0,1,0,1,1,0,1] (cd142 aF aC) [(aF,(frm P [(J3,(k 0),(.ref ls)),(J0,(k 1),(.int rm (k 11)))] 2)),(aC,(cel none)),(ls,(lst vs e2))] N T (.ask {z:MO // GO z} ⟨(fl142O aF aC (N + 1)),1,3,[(aF,(frm P [(J3,(k 0),(.ref ls)),(J0,(k 1),(.int rm (k 11)))] 2)),(aC,(cel (some (.ref N)))),(ls,(lst vs e2)),((N + 1),(LI [(.ref ls),(.int 0 0)])),(N,(dct P [(J10,T,(.int 0 (T + 1)))] 1))],(N + 2),(T + 3)⟩ [0,1,2,4,3] (fun z1=>⟨.next,[(frM8 P ls rm z1.1.k z1.1.x0 z1.1.gd z1.1.x1 z1.1.y1 z1.1.y2 z1.1.f),(cel (some (.ref z1.1.bd))),(lst vs e2),(LI [.none,(.int z1.1.i 0)]),(dct P [(J10,T,(.int 0 (T + 1)))] 1)],[(z1.1.bd,(dob z1.1.es z1.1.e))],z1.1.N,z1.1.T⟩) fun z1=>.ask Unit ⟨(.builtin "dict.__iter__" ⟨[(.ref z1.1.bd)],[]⟩),1,3,[(z1.1.bd,(dob z1.1.es z1.1.e))],z1.1.N,z1.1.T⟩ [5] (fun z2=>⟨(.ret (.ref z1.1.N)),[(dob z1.1.es z1.1.e)],[(z1.1.N,(fds "dict_keyiterator" [(.ref z1.1.bd),(.int 0 0),(.int (z1.1.es.size:Nat) 0),(.int (z1.1.e:Nat) 0)]))],(z1.1.N + 1),z1.1.T⟩) fun z2=>.ask {y:CO // GC z1.1 y} ⟨(cs142 aF aC (z1.1.N + 2) z1.1.N (z1.1.N + 1)),1,3,[(aC,(cel (some (.ref z1.1.bd)))),(z1.1.bd,(dob z1.1.es z1.1.e)),(z1.1.N,(fds "dict_keyiterator" [(.ref z1.1.bd),(.int 0 0),(.int (z1.1.es.size:Nat) 0),(.int (z1.1.e:Nat) 0)])),((z1.1.N + 1),(lst [] 0)),((z1.1.N + 2),(dob #[] 0))],(z1.1.N + 3),z1.1.T⟩ [1,5,6,7,8] (fun z3=>⟨.next,[(cel (some (.ref z1.1.bd))),(dob z1.1.es z1.1.e),(fds "dict_keyiterator" [.none,(.int z3.1.j 0),(.int (z1.1.es.size:Nat) 0),(.int (z1.1.e:Nat) 0)]),(lst z3.1.vs z3.1.ev),(dct P [(J13,z3.1.kk,(.str z3.1.x z3.1.t))] 1)],[],z3.1.N,z3.1.T⟩) fun z3=>.ask (Nat × Nat × Tok) ⟨(.builtin "max" ⟨[(.ref (z1.1.N + 1))],[]⟩),1,3,[((z1.1.N + 1),(lst z3.1.vs z3.1.ev))],z3.1.N,z3.1.T⟩ [7] (fun z4=>⟨(.ret (.int mx z4.2.2)),[(lst z3.1.vs z3.1.ev)],[],z4.1,z4.2.1⟩) fun z4=>.fin (.ok (.done (.ret (.int mx z4.2.2)))) [(aF,(frM8 P ls rm z1.1.k z1.1.x0 z1.1.gd z1.1.x1 z1.1.y1 z1.1.y2 z1.1.f)),(aC,(cel (some (.ref z1.1.bd)))),(ls,(lst vs e2)),(N,(dct P [(J10,T,(.int 0 (T + 1)))] 1)),((N + 1),(LI [.none,(.int z1.1.i 0)])),(z1.1.bd,(dob z1.1.es z1.1.e)),(z1.1.N,(fds "dict_keyiterator" [.none,(.int z3.1.j 0),(.int (z1.1.es.size:Nat) 0),(.int (z1.1.e:Nat) 0)])),((z1.1.N + 1),(lst z3.1.vs z3.1.ev)),((z1.1.N + 2),(dob #[] 2))] z4.1 z4.2.1):=fx 4 ⟨⟨go0⟩,fun z1=>⟨()⟩,fun z1 z2=>⟨gc0 z1.1⟩,fun z1 z2 z3=>⟨(0,0,0)⟩,fun z1 z2 z3 z4=>trivial⟩ (by kernel_rfl)
theorem cl0 (aF aC bd it acc lo:Addr) (x0 x1:Str) (j m v n r:Int) (vs:List Value) (es:Array DictEntry) (e e2:Nat) (k0 k1:Tok):Sg b P 44 [3,3,5,5,1,5,2,2,2,2,0,0,5,4] [0,1,0,1,0,1,0,1,0,1] (cl142 aF aC lo it acc) [(aC,(cel (some (.ref bd)))),(bd,(dob es e)),(it,(fds "dict_keyiterator" [(.ref bd),(.int j 0),(.int m 0),(.int (e:Nat) 0)])),(acc,(lst vs e2)),(lo,(dob #[] 0))] N T (.ask Tok ⟨(.builtin "dict_keyiterator.__next__" ⟨[(.ref it)],[]⟩),0,0,[(it,(fds "dict_keyiterator" [(.ref bd),(.int j 0),(.int m 0),(.int (e:Nat) 0)])),(bd,(dob es e))],N,T⟩ [2,1] (fun z1=>⟨(.ret (.str x1 z1)),[(fds "dict_keyiterator" [(.ref bd),(.int (j + 1) 0),(.int m 0),(.int (e:Nat) 0)]),(dob es e)],[],N,T⟩) fun z1=>.ask Tok ⟨(.builtin "dict.__getitem__" ⟨[(.ref bd),(.str x1 z1)],[]⟩),0,0,[(bd,(dob es e))],N,(T + 1)⟩ [1] (fun z2=>⟨(.ret (.int v z2)),[(dob es e)],[],N,(T + 2)⟩) fun z2=>.ask Unit ⟨(.builtin "len" ⟨[(.str x1 z1)],[]⟩),0,0,[],N,(T + 2)⟩ [] (fun z3=>⟨(.ret (.int n (T + 3))),[],[],N,(T + 4)⟩) fun z3=>.ask Unit ⟨(.builtin "int.__add__" ⟨[(.int v z2),(.int n (T + 3))],[]⟩),0,0,[],N,(T + 4)⟩ [] (fun z4=>⟨(.ret (.int r (T + 4))),[],[],N,(T + 5)⟩) fun z4=>.ask Unit ⟨(.builtin "list.append" ⟨[(.ref acc),(.int r (T + 4))],[]⟩),0,0,[(acc,(lst vs e2))],N,(T + 5)⟩ [3] (fun z5=>⟨(.ret .none),[(lst (sn vs (.int r (T + 4))) (e2 + 1))],[],N,(T + 5)⟩) fun z5=>.fin (.ok (.again (cl142 aF aC lo it acc))) [(aC,(cel (some (.ref bd)))),(bd,(dob es e)),(it,(fds "dict_keyiterator" [(.ref bd),(.int (j + 1) 0),(.int m 0),(.int (e:Nat) 0)])),(acc,(lst (sn vs (.int r (T + 4))) (e2 + 1))),(lo,(dct P [(J13,T,(.str x1 z1))] 1))] N (T + 5)):=fx 5 ⟨⟨0⟩,fun z1=>⟨0⟩,fun z1 z2=>⟨()⟩,fun z1 z2 z3=>⟨()⟩,fun z1 z2 z3 z4=>⟨()⟩,fun z1 z2 z3 z4 z5=>trivial⟩ (by kernel_rfl)
theorem cl1 (aF aC bd it acc lo:Addr) (x0 x1:Str) (j m v n r:Int) (vs:List Value) (es:Array DictEntry) (e e2:Nat) (k0 k1:Tok):Sg b P 44 [3,3,5,5,1,5,2,2,2,2,0,0,5,4] [0,1,0,1,0,1,0,1,0,1] (cl142 aF aC lo it acc) [(aC,(cel (some (.ref bd)))),(bd,(dob es e)),(it,(fds "dict_keyiterator" [(.ref bd),(.int j 0),(.int m 0),(.int (e:Nat) 0)])),(acc,(lst vs e2)),(lo,(dct P [(J13,k0,(.str x0 k1))] 1))] N T (.ask Tok ⟨(.builtin "dict_keyiterator.__next__" ⟨[(.ref it)],[]⟩),0,0,[(it,(fds "dict_keyiterator" [(.ref bd),(.int j 0),(.int m 0),(.int (e:Nat) 0)])),(bd,(dob es e))],N,T⟩ [2,1] (fun z1=>⟨(.ret (.str x1 z1)),[(fds "dict_keyiterator" [(.ref bd),(.int (j + 1) 0),(.int m 0),(.int (e:Nat) 0)]),(dob es e)],[],N,T⟩) fun z1=>.ask Tok ⟨(.builtin "dict.__getitem__" ⟨[(.ref bd),(.str x1 z1)],[]⟩),0,0,[(bd,(dob es e))],N,(T + 1)⟩ [1] (fun z2=>⟨(.ret (.int v z2)),[(dob es e)],[],N,(T + 2)⟩) fun z2=>.ask Unit ⟨(.builtin "len" ⟨[(.str x1 z1)],[]⟩),0,0,[],N,(T + 2)⟩ [] (fun z3=>⟨(.ret (.int n (T + 3))),[],[],N,(T + 4)⟩) fun z3=>.ask Unit ⟨(.builtin "int.__add__" ⟨[(.int v z2),(.int n (T + 3))],[]⟩),0,0,[],N,(T + 4)⟩ [] (fun z4=>⟨(.ret (.int r (T + 4))),[],[],N,(T + 5)⟩) fun z4=>.ask Unit ⟨(.builtin "list.append" ⟨[(.ref acc),(.int r (T + 4))],[]⟩),0,0,[(acc,(lst vs e2))],N,(T + 5)⟩ [3] (fun z5=>⟨(.ret .none),[(lst (sn vs (.int r (T + 4))) (e2 + 1))],[],N,(T + 5)⟩) fun z5=>.fin (.ok (.again (cl142 aF aC lo it acc))) [(aC,(cel (some (.ref bd)))),(bd,(dob es e)),(it,(fds "dict_keyiterator" [(.ref bd),(.int (j + 1) 0),(.int m 0),(.int (e:Nat) 0)])),(acc,(lst (sn vs (.int r (T + 4))) (e2 + 1))),(lo,(dct P [(J13,k0,(.str x1 z1))] 1))] N (T + 5)):=fx 5 ⟨⟨0⟩,fun z1=>⟨0⟩,fun z1 z2=>⟨()⟩,fun z1 z2 z3=>⟨()⟩,fun z1 z2 z3 z4=>⟨()⟩,fun z1 z2 z3 z4 z5=>trivial⟩ (by kernel_rfl)
theorem clz (aF aC bd it acc lo:Addr) (x0 x1:Str) (j m v n r:Int) (vs:List Value) (es:Array DictEntry) (e e2:Nat) (k0 k1:Tok):Sg b P 12 [3,3,7] [0,1] (cl142 aF aC lo it acc) [(aC,(cel (some (.ref bd)))),(bd,(dob es e)),(it,(fds "dict_keyiterator" [(.ref bd),(.int j 0),(.int m 0),(.int (e:Nat) 0)])),(acc,(lst vs e2)),(lo,(dct P [(J13,k0,(.str x0 k1))] 1))] N T (.ask Unit ⟨(.builtin "dict_keyiterator.__next__" ⟨[(.ref it)],[]⟩),0,0,[(it,(fds "dict_keyiterator" [(.ref bd),(.int j 0),(.int m 0),(.int (e:Nat) 0)])),(bd,(dob es e))],N,T⟩ [2,1] (fun z1=>⟨(.err (.ref (N + 1))),[(fds "dict_keyiterator" [.none,(.int j 0),(.int m 0),(.int (e:Nat) 0)]),(dob es e)],[(N,(tup [] 0)),((N + 1),(fds "StopIteration" [(.ref N),.none,.none,.none,(.bool false),.none]))],(N + 2),T⟩) fun z1=>.fin (.ok (.done .next)) [(aC,(cel (some (.ref bd)))),(bd,(dob es e)),(it,(fds "dict_keyiterator" [.none,(.int j 0),(.int m 0),(.int (e:Nat) 0)])),(acc,(lst vs e2)),(lo,(dct P [(J13,k0,(.str x0 k1))] 1)),(N,(tup [] 0)),((N + 1),(fds "StopIteration" [(.ref N),.none,.none,.none,(.bool false),.none]))] (N + 2) T):=fx 1 ⟨⟨()⟩,fun z1=>trivial⟩ (by kernel_rfl)
end
end Mine
end
section
namespace Mine
section
variable (b:Bool) (P:Params) (N T:Nat)
theorem xm0 (l it bl:Addr) (vs:List Value) (i x y:Int) (t10 t11:Tok) (e e1:Nat):Sg b P 16 [1,1,1,2] [0,0] (.builtin "max" ⟨[(.ref l)],[]⟩) [(l,(lst vs e))] N T (.fin (.ok (.again (.builtin "max.loop" ⟨[(.ref N),.none,(.ref (N + 1))],[]⟩))) [(l,(lst vs e)),(N,(LI [(.ref l),(.int 0 0)])),((N + 1),(lst [] 0))] (N + 2) T):=fx 0 trivial (by kernel_rfl)
theorem xm1 (l it bl:Addr) (vs:List Value) (i x y:Int) (t10 t11:Tok) (e e1:Nat):Sg b P 14 [3,1,1,3,3,3] [0,1] (.builtin "max.loop" ⟨[(.ref it),.none,(.ref bl)],[]⟩) [(it,(LI [(.ref l),(.int i 0)])),(l,(lst vs e)),(bl,(lst [] e1))] N T (.ask Unit ⟨(.builtin "list_iterator.__next__" ⟨[(.ref it)],[]⟩),0,1,[(it,(LI [(.ref l),(.int i 0)])),(l,(lst vs e))],N,T⟩ [0,1] (fun z1=>⟨(.ret (.int y t11)),[(LI [(.ref l),(.int (i + 1) 0)]),(lst vs e)],[],N,T⟩) fun z1=>.fin (.ok (.again (.builtin "max.loop" ⟨[(.ref it),.none,(.ref bl)],[]⟩))) [(it,(LI [(.ref l),(.int (i + 1) 0)])),(l,(lst vs e)),(bl,(lst [(.int y t11),(.int y t11)] (e1 + 1)))] N T):=fx 1 ⟨⟨()⟩,fun z1=>trivial⟩ (by kernel_rfl)
theorem xmt (l it bl:Addr) (vs:List Value) (i x y:Int) (t10 t11:Tok) (e e1:Nat):Sg b P 20 [3,1,1,3,3,3] [0,1,0,1] (.builtin "max.loop" ⟨[(.ref it),.none,(.ref bl)],[]⟩) [(it,(LI [(.ref l),(.int i 0)])),(l,(lst vs e)),(bl,(lst [(.int x t10),(.int x t10)] e1))] N T (.ask Unit ⟨(.builtin "list_iterator.__next__" ⟨[(.ref it)],[]⟩),0,1,[(it,(LI [(.ref l),(.int i 0)])),(l,(lst vs e))],N,T⟩ [0,1] (fun z1=>⟨(.ret (.int y t11)),[(LI [(.ref l),(.int (i + 1) 0)]),(lst vs e)],[],N,T⟩) fun z1=>.ask Unit ⟨(.builtin "int.__gt__" ⟨[(.int y t11),(.int x t10)],[]⟩),0,1,[],N,T⟩ [] (fun z2=>⟨(.ret (.bool true)),[],[],N,T⟩) fun z2=>.fin (.ok (.again (.builtin "max.loop" ⟨[(.ref it),.none,(.ref bl)],[]⟩))) [(it,(LI [(.ref l),(.int (i + 1) 0)])),(l,(lst vs e)),(bl,(lst [(.int y t11),(.int y t11)] e1))] N T):=fx 2 ⟨⟨()⟩,fun z1=>⟨()⟩,fun z1 z2=>trivial⟩ (by kernel_rfl)
theorem xmf (l it bl:Addr) (vs:List Value) (i x y:Int) (t10 t11:Tok) (e e1:Nat):Sg b P 17 [3,1,1] [0,1,0,1] (.builtin "max.loop" ⟨[(.ref it),.none,(.ref bl)],[]⟩) [(it,(LI [(.ref l),(.int i 0)])),(l,(lst vs e)),(bl,(lst [(.int x t10),(.int x t10)] e1))] N T (.ask Unit ⟨(.builtin "list_iterator.__next__" ⟨[(.ref it)],[]⟩),0,1,[(it,(LI [(.ref l),(.int i 0)])),(l,(lst vs e))],N,T⟩ [0,1] (fun z1=>⟨(.ret (.int y t11)),[(LI [(.ref l),(.int (i + 1) 0)]),(lst vs e)],[],N,T⟩) fun z1=>.ask Unit ⟨(.builtin "int.__gt__" ⟨[(.int y t11),(.int x t10)],[]⟩),0,1,[],N,T⟩ [] (fun z2=>⟨(.ret (.bool false)),[],[],N,T⟩) fun z2=>.fin (.ok (.again (.builtin "max.loop" ⟨[(.ref it),.none,(.ref bl)],[]⟩))) [(it,(LI [(.ref l),(.int (i + 1) 0)])),(l,(lst vs e)),(bl,(lst [(.int x t10),(.int x t10)] e1))] N T):=fx 2 ⟨⟨()⟩,fun z1=>⟨()⟩,fun z1 z2=>trivial⟩ (by kernel_rfl)
theorem xmz (l it bl:Addr) (vs:List Value) (i x y:Int) (t10 t11:Tok) (e e1:Nat):Sg b P 16 [3,1,1,5,3,3,3] [0,1] (.builtin "max.loop" ⟨[(.ref it),.none,(.ref bl)],[]⟩) [(it,(LI [(.ref l),(.int i 0)])),(l,(lst vs e)),(bl,(lst [(.int x t10),(.int x t10)] e1))] N T (.ask Unit ⟨(.builtin "list_iterator.__next__" ⟨[(.ref it)],[]⟩),0,1,[(it,(LI [(.ref l),(.int i 0)])),(l,(lst vs e))],N,T⟩ [0,1] (fun z1=>⟨(.err (.ref (N + 1))),[(LI [.none,(.int i 0)]),(lst vs e)],[(N,(tup [] 0)),((N + 1),(fds "StopIteration" [(.ref N),.none,.none,.none,(.bool false),.none]))],(N + 2),T⟩) fun z1=>.fin (.ok (.done (.ret (.int x t10)))) [(it,(LI [.none,(.int i 0)])),(l,(lst vs e)),(bl,(lst [] (e1 + 1))),(N,(tup [] 0)),((N + 1),(fds "StopIteration" [(.ref N),.none,.none,.none,(.bool false),.none]))] (N + 2) T):=fx 1 ⟨⟨()⟩,fun z1=>trivial⟩ (by kernel_rfl)
end
section
open PyProof.Rows PySem.Builtin PySem.Builtin.Str
theorem Rep.sublist {C:Cf} {S:List Addr} {h₀ h:Heap} {L L':Led} (D:Rep C S h₀ L h) (s:List.Sublist L' L):Rep C S h₀ L' h where
  top:=D.top
  has:=fun p hp=>D.has p (s.subset hp)
  nodup:=List.Sublist.nodup (List.Sublist.map _ s) D.nodup
  off:=fun p hp=>D.off p (s.subset hp)
  keep:=D.keep
  inS:=fun p hp=>D.inS p (s.subset hp)
  grow:=D.grow
theorem aft_pushR {s:Shared} {o:Obj} {rd:Led} {v:Value} (hh:HasL s.heap rd) (hf:o.isFreed = false):Aft s { s with heap:=s.heap.push o } rd ⟨.ret v,rd.map (·.2),[(s.heap.objs.size,o)],s.heap.objs.size + 1,s.toks⟩ where
  gens:=rfl
  drawn:=rfl
  os:=rfl
  toks:=rfl
  size:=Heap.size_push ..
  grow:=Nat.le_add_right _ _
  wr:=fun p hp=>by
    rw [zip_self] at hp
    exact Heap.get?_push_of_some _ (hh p hp)
  nw:=fun p hp=>by
    have:p = (s.heap.objs.size,o):=by simpa using hp
    rw [this]
    exact ⟨Heap.get?_push_size _ hf,Nat.le_refl _⟩
  nd:=by simp
  keep:=fun b x hb _=>Heap.get?_push_of_some _ hb
section
variable {prog:Program} {w:World} {C:Cf}
theorem plain_diter:plainId "dict.__iter__" = true:=by decide +kernel
theorem conDIter {d u N T e:Nat} {a:Addr} {es:Array DictEntry} (ha:(a == sysModules) = false) :
    Con prog w C d u (.builtin "dict.__iter__" ⟨[.ref a],[]⟩) [(a,dob es e)] N T (fun _:Unit=>⟨.ret (.ref N),[dob es e],[(N,fds "dict_keyiterator" [.ref a,.int 0 0,.int (es.size:Nat) 0,.int (e:Nat) 0])],N + 1,T⟩):=by
  intro A s hz _ _ _ hh nd _ hN hT
  refine codeAny_builtin F.entry_dict_iter ?_
  rw [Around.under_plainId plain_diter]
  have ho:=hh _ (.head _)
  have hT':s.TypeIs (.ref a) "dict":=⟨_,ho,rfl⟩
  unfold Builtin.«dict.__iter__»
  refine wpAny_bind ?_
  unfold Builtin.Dict.dictSlotNone
  refine wpAny_bind (wpAny_notOrdered_dict hT' ?_)
  show wpAny _ _ (pure (Value.ref a)) _ _ s
  refine wpAny_pure ?_
  show wpAny _ _ (Builtin.Dict.showsAll a >>= _) _ _ s
  unfold Builtin.Dict.showsAll
  rw [if_neg (by rw [ha]; exact Bool.false_ne_true)]
  refine wpAny_bind (wpAny_pure ?_)
  refine wpAny_bind (wpAny_dictEntries ho rfl ?_)
  refine wpAny_bind (wpAny_dictEpoch ho rfl ?_)
  refine wpAny_bind (wpAny_newObj_type (wpAny_pure ⟨(),?_,?_⟩))
  · rw [hN]; rfl
  · subst hN hT
    exact aft_pushR (rd:=[(a,dob es e)]) hh rfl
theorem conLenS {d u N T:Nat} {x:PySem.Str} {t:Tok} {n:Int} (hn:((x.length:Nat):Int) = n) (hx:x.length ≤ sizeLine) :
    Con prog w C d u (.builtin "len" ⟨[.str x t],[]⟩) [] N T (fun _:Unit=>⟨.ret (.int n (T + 1)),[],[],N,T + 2⟩):=by
  intro A s hz _ _ _ hh nd _ hN hT
  refine codeAny_builtin entry_len ?_
  rw [Around.under_plainId plain_lenB]
  have hs:sizeLine = 16777216:=by decide
  subst hN hT hn
  refine wpAny_mono (wpAny_len_body (Q:=fun r s'=>∃ z:Unit,(.ok (.ret r):Result) = .ok (.ret (.int ((x.length:Nat):Int) (s.toks + 1))) ∧ Aft s s' [] ⟨.ret (.int ((x.length:Nat):Int) (s.toks + 1)),[],[],s.heap.objs.size,s.toks + 2⟩) (T:="str") rfl F.slot_str_len F.entry_str_len (F.args_str_len_1 _) (gives_str_len x t) (by omega) (by omega) ⟨(),rfl,aft_tok (k:=2) hh⟩) ?_ (fun _ _ x=>x)
  rintro fin s' ⟨r,rfl,h⟩
  exact h
end
theorem IX.snoc {vs:List Value} {ns:List Int} {n:Int} {t:Tok} (h:IX vs ns):IX (sn vs (.int n t)) (ns++[n]):=by
  obtain ⟨ps,h1,h2⟩:=h
  exact ⟨ps++[(n,t)],by simp [sn,h1],by simp [h2]⟩
theorem IX.len {vs:List Value} {ns:List Int} (h:IX vs ns):vs.length = ns.length:=by
  obtain ⟨ps,h1,h2⟩:=h
  rw [h1,← h2]; simp
theorem IX.get:∀ {vs:List Value} {ns:List Int} (_:IX vs ns) (i:Nat) {n:Int},ns[i]? = some n → ∃ t,vs[i]? = some (.int n t):=by
  rintro vs ns ⟨ps,rfl,rfl⟩ i n h
  rw [List.getElem?_map] at h
  cases hp:ps[i]? with
  | none=>rw [hp] at h; cases h
  | some p=>
    rw [hp] at h
    cases h
    exact ⟨p.2,by rw [List.getElem?_map,hp]; rfl⟩
theorem ix_any (ns:List Int):IX (ns.map fun n=>.int n 0) ns:=⟨ns.map fun n=>(n,0),by simp,by simp [Function.comp_def]⟩
section
variable {w:World} {b:Bool} (O:(cfg b w.params).Ok PG w)
include O
theorem loop_mx {l it bl:Addr} {vs:List Value} {ns:List Int} {e:Nat} {A:Around} {R:Result → Shared → Prop} {S:List Addr} {h₀:Heap} {g:Array GenState} {d:Drawn} {os:OsState}
    (hz:A.handled = none) (hvs:IX vs ns) (want:Int)
    (hend:∀ t h N T,Rep (cfg b w.params) S h₀ [(l,lst vs e)] h → h.objs.size = N → R (.ok (.ret (.int want t))) ⟨h,g,d,T,os⟩) :
    ∀ (rest:List Int) (ii:Nat) (i x:Int) (t:Tok) (e1:Nat) (h:Heap) (N T:Nat),i = ii → ns.drop ii = rest → mxF rest x = want →
      Rep (cfg b w.params) S h₀ [(it,fds "list_iterator" [.ref l,.int i 0]),(l,lst vs e),(bl,lst [.int x t,.int x t] e1)] h → h.objs.size = N →
      codeAny (model PG w) A (.builtin "max.loop" ⟨[.ref it,.none,.ref bl],[]⟩) R ⟨h,g,d,T,os⟩
  | [],ii,i,x,t,e1,h,N,T,hi,hr,hw,D,hN=>by
    have hv:vs[ii]? = none:=by
      rw [List.drop_eq_nil_iff] at hr
      rw [List.getElem?_eq_none_iff,hvs.len]; exact hr
    refine code_run O hz (xmz b w.params N T l it bl vs i x 0 t 0 e e1) D hN (HHx 1 ⟨⟨by decide,conLItE O hi hv⟩,fun _=>trivial,fun _=>?_⟩)
    intro h' D' hN'
    have hx:x = want:=hw
    have:=hend t h' _ T (D'.sublist (L':=[(l,lst vs e)]) (.cons _ (.cons_cons _ (List.nil_sublist _)))) hN'
    rw [← hx] at this
    exact this
  | y :: rest,ii,i,x,t,e1,h,N,T,hi,hr,hw,D,hN=>by
    have hy:ns[ii]? = some y:=by
      have:=congrArg List.head? hr
      simpa using this
    have hr':ns.drop (ii + 1) = rest:=by
      have:=congrArg List.tail hr
      simpa using this
    obtain ⟨ty,hv⟩:=hvs.get ii hy
    have hw':mxF rest (gtI x y) = want:=hw
    cases hg:decide (y > x) with
    | true=>
      have hgt:gtI x y = y:=by unfold gtI; rw [if_pos (of_decide_eq_true hg)]
      refine code_run O hz (xmt b w.params N T l it bl vs i x y t ty e e1) D hN (HHx 2 ⟨⟨by decide,conLIt hi hv⟩,fun _=>⟨by decide,conIGt O hg⟩,fun _ _=>trivial,fun _ _=>?_⟩)
      intro h' D' hN' hq
      exact ⟨hq,loop_mx hz hvs want hend rest (ii + 1) (i + 1) y ty e1 h' _ _ (by rw [hi]; rfl) hr' (by rw [hgt] at hw'; exact hw') D' hN'⟩
    | false=>
      have hgt:gtI x y = x:=by unfold gtI; rw [if_neg (of_decide_eq_false hg)]
      refine code_run O hz (xmf b w.params N T l it bl vs i x y t ty e e1) D hN (HHx 2 ⟨⟨by decide,conLIt hi hv⟩,fun _=>⟨by decide,conIGt O hg⟩,fun _ _=>trivial,fun _ _=>?_⟩)
      intro h' D' hN' hq
      exact ⟨hq,loop_mx hz hvs want hend rest (ii + 1) (i + 1) x t e1 h' _ _ (by rw [hi]; rfl) hr' (by rw [hgt] at hw'; exact hw') D' hN'⟩
theorem conMaxL {dd u N T e:Nat} {l:Addr} {vs:List Value} {x want:Int} {rest:List Int} (hvs:IX vs (x :: rest)) (hw:mxF rest x = want) :
    CG w b dd u (.builtin "max" ⟨[.ref l],[]⟩) [(l,lst vs e)] N T (fun z:Nat × Nat × Tok=>⟨.ret (.int want z.2.2),[lst vs e],[],z.1,z.2.1⟩):=by
  refine coni fun A h g dr os G hz hd hu D hN hG=>?_
  refine hG ?_
  refine code_run O hz (xm0 b w.params N T l 0 0 vs 0 0 0 0 0 e 0) D hN ?_
  intro h' D' hN' hq
  refine ⟨hq,?_⟩
  obtain ⟨tx,hv⟩:=hvs.get 0 (n:=x) rfl
  have D2:Rep (cfg b w.params) ([(l,lst vs e)].map (·.1)) h [(N,fds "list_iterator" [.ref l,.int 0 0]),(l,lst vs e),(N + 1,lst [] 0)] h':=by
    refine ⟨D'.top,fun p hp=>D'.has p (?_),?_,fun p hp=>D'.off p ?_,D'.keep,fun p hp=>D'.inS p ?_,D'.grow⟩
    · revert hp; simp; rintro (q | q | q) <;> simp [q]
    · exact (List.Perm.swap l N [N + 1]).nodup_iff.mpr D'.nodup
    · revert hp; simp; rintro (q | q | q) <;> simp [q]
    · revert hp; simp; rintro (q | q | q) <;> simp [q]
  refine code_run O hz (xm1 b w.params _ _ l N (N + 1) vs 0 0 x 0 tx e 0) D2 hN' (HHx 1 ⟨⟨by decide,conLIt (i:=0) rfl hv⟩,fun _=>trivial,fun _=>?_⟩)
  intro h2 D3 hN2 hq2
  refine ⟨hq2,loop_mx O hz hvs want ?_ rest 1 (0 + 1) x tx _ h2 _ _ rfl rfl hw D3 hN2⟩
  intro t h3 N3 T3 D4 hN3
  exact ⟨(N3,T3,t),rfl,aft_plain (q:=⟨.ret (.int want t),[lst vs e],[],N3,T3⟩) D4 rfl hN3 rfl⟩
end
end
end Mine
end
section
namespace Mine
section
open PyProof.Rows PySem.Builtin PySem.Builtin.Str
section
variable {prog:Program} {w:World}
theorem comp_start {A:Around} {e:Expr} {it acc:Value} {env:Env} {R:Result → Shared → Prop} {s:Shared} (h1:((clausesOf e)[0]?).elim false (·.is_async != 0) = false) (h2:(Code.compStart e 0 it acc env).isFrame = false)
    (h3:(Code.compLoop e 0 it acc env).quiet = true) (hp:∀ (A':Around) (Q:Value → Shared → Prop) (E:Value → Shared → Prop),Q it s → wpAny (model prog w) A' (pyIter it) Q E s)
    (h:codeAny (model prog w) A (.compLoop e 0 it acc env) R s):codeAny (model prog w) A (.compStart e 0 it acc env) R s:=by
  refine x_code ?_
  show wpAny _ _ (if (Code.compStart e 0 it acc env).isFrame = true then _ else (compStart e 0 it acc env).onRaise _) _ _ s
  rw [if_neg (by rw [h2]; exact Bool.false_ne_true)]
  refine wpAny_onRaise ?_
  unfold compStart
  rw [if_neg (by rw [h1]; exact Bool.false_ne_true)]
  refine wpAny_bind (wpAny_askSetting ?_)
  have fin:∀ s':Shared,s' = s → (fun fin s'=>match fin with | .done f=>R (.ok f) s' | .again c'=>c'.quiet = true ∧ codeAny (model prog w) A c' R s') (PySem.Fin.again (.compLoop e 0 it acc env)) s':=by
    rintro s' rfl
    exact ⟨h3,h⟩
  show wpAny _ _ (if w.params.followText "comprehension-iter-twice" = true then _ else _) _ _ _
  cases w.params.followText "comprehension-iter-twice" with
  | true=>
    rw [if_pos rfl]
    exact wpAny_pure (fin s rfl)
  | false=>
    rw [if_neg Bool.false_ne_true]
    refine wpAny_bind (wpAny_rule ?_)
    dsimp only
    split
    · exact wpAny_bind (wpAny_standAt (wpAny_bind (hp _ _ _ (wpAny_pure (fin s rfl)))))
    · exact wpAny_bind (hp _ _ _ (wpAny_pure (fin s rfl)))
end
end
end Mine
end
section
namespace Mine
section
open PyProof.Rows PySem.Builtin PySem.Builtin.Str
section
variable {w:World} {b:Bool} (O:(cfg b w.params).Ok PG w)
include O
theorem loop_cl {aF aC bd it acc lo:Addr} {es:Array DictEntry} {e:Nat} {A:Around} {R:Result → Shared → Prop} {S:List Addr} {h₀:Heap} {g:Array GenState} {d:Drawn} {os:OsState}
    (hz:A.handled = none) {best:List (PySem.Str × Int)} (hbest:DK w es best) (hl:best.length ≤ 1000) (hk:best.all (fun p=>decide (p.1.length ≤ 1000)) = true) (want:List Int) (hwl:want.length = best.length)
    (hend:∀ j x k0 k1 vs e2 h N T,IX vs want → Rep (cfg b w.params) S h₀ [(aC,cel (some (.ref bd))),(bd,dob es e),(it,fds "dict_keyiterator" [.none,.int j 0,.int (es.size:Nat) 0,.int (e:Nat) 0]),(acc,lst vs e2),(lo,dct w.params [(sg [116,111,112,115],k0,.str x k1)] 1)] h → h.objs.size = N → R (.ok .next) ⟨h,g,d,T,os⟩) :
    ∀ (rest:List (PySem.Str × Int)) (ii:Nat) (j:Int) (x:PySem.Str) (k0 k1:Tok) (vs:List Value) (ns:List Int) (e2:Nat) (h:Heap) (N T:Nat),j = ii → best.drop ii = rest → IX vs ns → ns++rest.map valF = want →
      Rep (cfg b w.params) S h₀ [(aC,cel (some (.ref bd))),(bd,dob es e),(it,fds "dict_keyiterator" [.ref bd,.int j 0,.int (es.size:Nat) 0,.int (e:Nat) 0]),(acc,lst vs e2),(lo,dct w.params [(sg [116,111,112,115],k0,.str x k1)] 1)] h → h.objs.size = N →
      codeAny (model PG w) A (cl142 aF aC lo it acc) R ⟨h,g,d,T,os⟩
  | [],ii,j,x,k0,k1,vs,ns,e2,h,N,T,hj,hr,hns,hw,D,hN=>by
    have hget:best[ii]? = none:=by
      rw [List.drop_eq_nil_iff] at hr
      simpa using hr
    refine code_run O hz (clz b w.params N T aF aC bd it acc lo x x j (es.size:Nat) 0 0 0 vs es e e2 k0 k1) D hN (HHx 1 ⟨⟨by decide,conDItE O hbest hj rfl hget⟩,fun _=>trivial,fun _=>?_⟩)
    intro h' D' hN'
    refine hend j x k0 k1 vs e2 h' _ _ ?_ (Rep.sub D') hN'
    rw [← hw]; simpa using hns
  | (y,v) :: rest,ii,j,x,k0,k1,vs,ns,e2,h,N,T,hj,hr,hns,hw,D,hN=>by
    have hget:best[ii]? = some (y,v):=by
      have:=congrArg List.head? hr
      simpa using this
    have hr':best.drop (ii + 1) = rest:=by
      have:=congrArg List.tail hr
      simpa using this
    have hy:y.length ≤ 1000:=by
      have:=List.all_eq_true.mp hk _ (List.mem_of_getElem? hget)
      simpa using this
    have hs:sizeLine = 16777216:=by decide
    have hln:ns.length ≤ 1000:=by
      have:=congrArg List.length hr
      simp at this
      have hii:ii ≤ 1000:=by omega
      have h4:=congrArg List.length hw
      have h5:want.length = best.length:=hwl
      simp at h4 ; omega
    refine code_run O hz (cl1 b w.params N T aF aC bd it acc lo x y j (es.size:Nat) v ((y.length:Nat):Int) (v + ((y.length:Nat):Int)) vs es e e2 k0 k1) D hN
      (HHx 5 ⟨⟨by decide,conDIt hbest hj rfl hget⟩,fun z1=>⟨by decide,conDGetI hbest (hbest.look hget)⟩,fun z1 z2=>⟨by decide,conLenS rfl (by omega)⟩,fun z1 z2 _=>⟨by decide,conIAdd O rfl⟩,fun z1 z2 _ _=>⟨by decide,conAppend (by rw [hns.len]; omega)⟩,fun _ _ _ _ _=>trivial,fun z1 z2 _ _ _=>?_⟩)
    intro h' D' hN' hq
    refine ⟨hq,loop_cl hz hbest hl hk want hwl hend rest (ii + 1) (j + 1) y k0 z1 _ (ns++[v + ((y.length:Nat):Int)]) _ h' _ _ (by rw [hj]; rfl) hr' hns.snoc ?_ D' hN'⟩
    rw [← hw]; simp [valF]
theorem con_cs {aF aC bd it acc lo:Addr} {es:Array DictEntry} {e N T:Nat} {best:List (PySem.Str × Int)} {want:List Int} (hbest:DK w es best) (h0:0 < best.length) (hl:best.length ≤ 1000) (hk:best.all (fun p=>decide (p.1.length ≤ 1000)) = true) (hw:best.map valF = want) :
    CG w b 549 5490 (cs142 aF aC lo it acc) [(aC,cel (some (.ref bd))),(bd,dob es e),(it,fds "dict_keyiterator" [.ref bd,.int 0 0,.int (es.size:Nat) 0,.int (e:Nat) 0]),(acc,lst [] 0),(lo,dob #[] 0)] N T
      (fun z:{z:CO // IX z.vs want}=>⟨.next,[cel (some (.ref bd)),dob es e,fds "dict_keyiterator" [.none,.int z.1.j 0,.int (es.size:Nat) 0,.int (e:Nat) 0],lst z.1.vs z.1.ev,dct w.params [(sg [116,111,112,115],z.1.kk,.str z.1.x z.1.t)] 1],[],z.1.N,z.1.T⟩):=by
  refine coni fun A h g dr os G hz hd hu D hN hG=>?_
  have hit:h.IsKeyIter it bd 0 es.size e:=⟨_,D.has (it,_) (.tail _ (.tail _ (.head _))),rfl,rfl⟩
  have hG:=fun z=>hG (comp_start (by kernel_rfl) (by kernel_rfl) (by kernel_rfl) (fun A' Q E q=>wpAny_pyIter_keyiter hit q) z)
  cases best with
  | nil=>exact absurd h0 (by simp)
  | cons p rest=>
    obtain ⟨y,v⟩:=p
    have hget:((y,v) :: rest)[0]? = some (y,v):=rfl
    have hy:y.length ≤ 1000:=by
      have:=List.all_eq_true.mp hk _ (List.mem_of_getElem? hget)
      simpa using this
    have hs:sizeLine = 16777216:=by decide
    refine hG ?_
    refine code_run O hz (cl0 b w.params N T aF aC bd it acc lo y y 0 (es.size:Nat) v ((y.length:Nat):Int) (v + ((y.length:Nat):Int)) [] es e 0 0 0) D hN
      (HHx 5 ⟨⟨by decide,conDIt (i:=0) hbest rfl rfl hget⟩,fun z1=>⟨by decide,conDGetI hbest (hbest.look hget)⟩,fun z1 z2=>⟨by decide,conLenS rfl (by omega)⟩,fun z1 z2 _=>⟨by decide,conIAdd O rfl⟩,fun z1 z2 _ _=>⟨by decide,conAppend (by decide)⟩,fun _ _ _ _ _=>trivial,fun z1 z2 _ _ _=>?_⟩)
    intro h' D' hN' hq
    refine ⟨hq,loop_cl O hz hbest hl hk want (by rw [← hw]; simp) ?_ rest 1 (0 + 1) y _ z1 _ [v + ((y.length:Nat):Int)] _ h' _ _ rfl rfl (IX.snoc (ns:=[]) ⟨[],rfl,rfl⟩) ?_ D' hN'⟩
    · intro j x k0 k1 vs e2 h2 N2 T2 hI D2 hN2
      exact ⟨⟨⟨j,vs,e2,k0,x,k1,N2,T2⟩,hI⟩,rfl,aft_plain (q:=⟨.next,[cel (some (.ref bd)),dob es e,fds "dict_keyiterator" [.none,.int j 0,.int (es.size:Nat) 0,.int (e:Nat) 0],lst vs e2,dct w.params [(sg [116,111,112,115],k0,.str x k1)] 1],[],N2,T2⟩) D2 rfl hN2 rfl⟩
    · rw [← hw]; simp [valF]
omit O in
theorem top_lt {h:Heap} (ht:TopIn (cfg b w.params) h):147 < h.objs.size:=Heap.lt_size (ht 147 (o147 (FT b w.params)) (by kernel_rfl))
omit O in
theorem new_ne {h:Heap} {N:Nat} (ht:TopIn (cfg b w.params) h) (hN:h.objs.size = N):((N:Addr) == sysModules) = false:=by
  have:=top_lt ht
  rw [hN] at this
  refine beq_eq_false_iff_ne.mpr ?_
  show ¬ @Eq Nat N 1
  omega
omit O in
theorem Rep.perm {C:Cf} {S:List Addr} {h₀ h:Heap} {L L':Led} (D:Rep C S h₀ L h) (s:List.Perm L L'):Rep C S h₀ L' h where
  top:=D.top
  has:=fun p hp=>D.has p (s.mem_iff.mpr hp)
  nodup:=(s.map _).nodup_iff.mp D.nodup
  off:=fun p hp=>D.off p (s.mem_iff.mpr hp)
  keep:=D.keep
  inS:=fun p hp=>D.inS p (s.mem_iff.mpr hp)
  grow:=D.grow
omit O in
theorem dk_first {T:Nat}:DK w ⟨ens w.params [(sg [],T,.int 0 (T + 1))]⟩ [(sg [],0)]:=by
  refine ⟨[(sg [],.int 0 (T + 1))],?_,?_,by simp,⟨rfl,⟨_,rfl⟩,trivial⟩⟩
  · intro e he
    have:e = en w.params (sg []) T (.int 0 (T + 1)):=by simpa [ens] using he
    subst this
    exact ⟨sg [],by simp [PySem.strKind,Value.isStrOf,en],rfl⟩
  · exact .cons (by simp [PySem.strKind,Value.isStrOf,en]) rfl .nil
theorem loop_mo1 {aF aC ls io b0:Addr} {o0:Obj} {vs:List Value} {e2:Nat} {A:Around} {R:Result → Shared → Prop} {S:List Addr} {h₀:Heap} {g:Array GenState} {d:Drawn} {os:OsState}
    (hz:A.handled = none) (hd:A.depth ≤ 548) (hu:A.units ≤ 5480) (qs:List (PySem.Str × Tok)) (hvs:vs = qs.map fun p=>.str p.1 p.2) (want:List (PySem.Str × Int))
    (hend:∀ bd i k x0 gd x1 y1 y2 f es e h N T,(bd == sysModules) = false → DK w es want → Rep (cfg b w.params) S h₀ [(aF,frM8 w.params ls 1 k x0 gd x1 y1 y2 f),(aC,cel (some (.ref bd))),(ls,lst vs e2),(io,fds "list_iterator" [.none,.int i 0]),(b0,o0),(bd,dob es e)] h → h.objs.size = N → R (.ok .next) ⟨h,g,d,T,os⟩) :
    ∀ (rest:List (PySem.Str × Tok)) (ii:Nat) (i:Int) (bd:Addr) (k:Nat → Tok) (x0:PySem.Str) (gd:Addr) (x1 y1 y2:PySem.Str) (f:Int) (es:Array DictEntry) (e:Nat) (best:List (PySem.Str × Int)) (h:Heap) (N T:Nat),i = ii → qs.drop ii = rest → (bd == sysModules) = false → DK w es best →
      outF 1 (rest.map (·.1)) best = want → outOk 1 (rest.map (·.1)) best = true → Rep (cfg b w.params) S h₀ [(aF,frM8 w.params ls 1 k x0 gd x1 y1 y2 f),(aC,cel (some (.ref bd))),(ls,lst vs e2),(io,fds "list_iterator" [.ref ls,.int i 0]),(b0,o0),(bd,dob es e)] h → h.objs.size = N → codeAny (model PG w) A (fl142O aF aC io) R ⟨h,g,d,T,os⟩
  | [],ii,i,bd,k,x0,gd,x1,y1,y2,f,es,e,best,h,N,T,hi,hr,hbd,hbest,hw,hok,D,hN=>by
    have hv:vs[ii]? = none:=by
      rw [List.drop_eq_nil_iff] at hr
      rw [hvs]; simpa using hr
    refine code_run O hz (moz b w.params N T aF aC ls bd gd io k x0 x1 x0 y1 y2 0 i 1 f vs es e e2 b0 o0 (fun _=>True) ⟨⟨#[],0,0,fun _=>0,x0,x0,x0,0,0,0⟩,trivial⟩) D hN (HHx 1 ⟨⟨by decide,conLItE O hi hv⟩,fun _=>trivial,fun _=>?_⟩)
    intro h' D' hN' hq
    refine ⟨hq,block_nil (hend bd i k x0 gd x1 y1 y2 f es e h' _ _ hbd ?_ (Rep.sub D') hN')⟩
    rw [← hw]; exact hbest
  | p :: rest,ii,i,bd,k,x0,gd,x1,y1,y2,f,es,e,best,h,N,T,hi,hr,hbd,hbest,hw,hok,D,hN=>by
    have hv:vs[ii]? = some (.str p.1 p.2):=by
      have:qs[ii]? = some p:=by
        have:=congrArg List.head? hr
        simpa using this
      rw [hvs,List.getElem?_map,this]; rfl
    have hr':qs.drop (ii + 1) = rest:=by
      have:=congrArg List.tail hr
      simpa using this
    rw [List.map_cons,outOk,Bool.and_eq_true] at hok
    obtain ⟨hmid,hok2⟩:=hok
    obtain ⟨es0,hes0⟩:=dk_mid 1 p.1 best #[] [] (DK.nil w)
    have hgd:=new_ne D.top hN
    refine code_run O hz (mo8 b w.params N T aF aC ls bd gd io k x0 x1 p.1 y1 y2 p.2 i 1 f vs es e e2 b0 o0 (fun z=>DK w z.es (midF 1 p.1 best [])) ⟨⟨es0,0,0,fun _=>0,x0,x0,x0,0,0,0⟩,hes0⟩) D hN
      (HHx 3 ⟨⟨by decide,conLIt hi hv⟩,fun _=>⟨by decide,conDIter hbd⟩,fun _ _=>⟨by decide,(con_mm8_1 (k:=fun j=>match j with | 12=>p.2 | j=>k j) O hbest hgd (DK.nil w) rfl hmid).mono (Mine.bd hd rfl) (Mine.bd hu rfl)⟩,fun _ _ _=>trivial,fun _ _ z3=>?_⟩)
    intro h' D' hN' hq
    refine ⟨hq,loop_mo1 hz hd hu qs hvs want hend rest (ii + 1) (i + 1) N z3.1.k p.1 N z3.1.x1 z3.1.y1 z3.1.y2 z3.1.f z3.1.es z3.1.e _ h' _ _ (by rw [hi]; rfl) hr' hgd z3.2 hw hok2 (D'.sublist (.cons_cons _ (.cons_cons _ (.cons_cons _ (.cons_cons _ (.cons_cons _ (.cons _ (.cons_cons _ (List.nil_sublist _))))))))) hN'⟩
theorem con_mo1 {aF aC ls bd io:Addr} {vs:List Value} {xs:List PySem.Str} {es:Array DictEntry} {e e2 N T:Nat} {k:Nat → Tok} {v:Int} {best want:List (PySem.Str × Int)} (hvs:TX vs xs) (h0:xs ≠ []) (hbd:(bd == sysModules) = false) (hbest:DK w es ((sg [],v) :: best))
    (hw:outF 1 xs ((sg [],v) :: best) = want) (hok:outOk 1 xs ((sg [],v) :: best) = true) :
    CG w b 548 5480 (fl142O aF aC io) [(aF,frM2 w.params ls 1 k),(aC,cel (some (.ref bd))),(ls,lst vs e2),(io,fds "list_iterator" [.ref ls,.int 0 0]),(bd,dob es e)] N T
      (fun z:{z:MO // DK w z.es want ∧ (z.bd == sysModules) = false}=>⟨.next,[frM8 w.params ls 1 z.1.k z.1.x0 z.1.gd z.1.x1 z.1.y1 z.1.y2 z.1.f,cel (some (.ref z.1.bd)),lst vs e2,fds "list_iterator" [.none,.int z.1.i 0],dob es e],[(z.1.bd,dob z.1.es z.1.e)],z.1.N,z.1.T⟩):=by
  refine coni fun A h g dr os G hz hd hu D hN hG=>?_
  obtain ⟨qs,hq1,hq2⟩:=hvs
  cases qs with
  | nil=>exact absurd hq2.symm h0
  | cons p rest=>
    have hv:vs[0]? = some (.str p.1 p.2):=by rw [hq1]; rfl
    rw [← hq2,List.map_cons,outOk,Bool.and_eq_true] at hok
    obtain ⟨hmid,hok2⟩:=hok
    rw [← hq2,List.map_cons,outF] at hw
    obtain ⟨es0,hes0⟩:=dk_mid 1 p.1 ((sg [],v) :: best) #[] [] (DK.nil w)
    have hgd:=new_ne D.top hN
    refine hG ?_
    refine code_run O hz (mo2 b w.params N T aF aC ls bd 0 io k p.1 p.1 p.1 p.1 p.1 p.2 0 1 0 vs es e e2 0 (dob #[] 0) (fun z=>DK w z.es (midF 1 p.1 ((sg [],v) :: best) [])) ⟨⟨es0,0,0,fun _=>0,p.1,p.1,p.1,0,0,0⟩,hes0⟩) D hN
      (HHx 3 ⟨⟨by decide,conLIt (i:=0) rfl hv⟩,fun _=>⟨by decide,conDIter hbd⟩,fun _ _=>⟨by decide,(con_mm4_1 (k:=fun j=>match j with | 2=>T | 3=>T + 1 | 12=>p.2 | j=>k j) O hbest hgd (DK.nil w) rfl hmid).mono (Mine.bd hd rfl) (Mine.bd hu rfl)⟩,fun _ _ _=>trivial,fun _ _ z3=>?_⟩)
    intro h' D' hN' hq
    refine ⟨hq,loop_mo1 O hz hd hu (p :: rest) hq1 want ?_ rest 1 (0 + 1) N z3.1.k p.1 N z3.1.x1 z3.1.y1 z3.1.y2 z3.1.f z3.1.es z3.1.e _ h' _ _ rfl rfl hgd z3.2 hw hok2 (Rep.sub (L':=[_]) D') hN'⟩
    intro bd' i' k' x0' gd' x1' y1' y2' f' es' e' h2 N2 T2 hb' hk' D2 hN2
    exact ⟨⟨⟨bd',es',e',i',k',x0',gd',x1',y1',y2',f',N2,T2⟩,hk',hb'⟩,rfl,aft_ix (q:=⟨.next,[frM8 w.params ls 1 k' x0' gd' x1' y1' y2' f',cel (some (.ref bd')),lst vs e2,fds "list_iterator" [.none,.int i' 0],dob es e],[(bd',dob es' e')],N2,T2⟩) D2 rfl hN2 rfl [0] (by decide) rfl⟩
theorem con_most1 {ls:Addr} {vs:List Value} {xs:List PySem.Str} {e2 N T:Nat} {tr:Tok} {m:Int} (hvs:TX vs xs) (h0:xs ≠ []) (hok:outOk 1 xs [(sg [],0)] = true) (hm:mostF 1 xs = m) :
    CG w b 540 5400 (.call (.ref 142) ⟨[.ref ls,.int 1 tr],[]⟩) [(ls,lst vs e2)] N T (fun z:Nat × Nat × Tok=>⟨.ret (.int m z.2.2),[lst vs e2],[],z.1,z.2.1⟩):=by
  have hfin:∀ (l:List PySem.Str) (bs:List (PySem.Str × Int)),outOk 1 l bs = true → 0 < (outF 1 l bs).length ∧ (outF 1 l bs).length ≤ 1000 ∧ (outF 1 l bs).all (fun p=>decide (p.1.length ≤ 1000)) = true:=by
    intro l
    induction l with
    | nil=>
      intro bs h
      rw [outOk,Bool.and_eq_true,Bool.and_eq_true] at h
      exact ⟨of_decide_eq_true h.1.1,of_decide_eq_true h.1.2,h.2⟩
    | cons x l ih=>
      intro bs h
      rw [outOk,Bool.and_eq_true] at h
      exact ih _ h.2
  obtain ⟨f1,f2,f3⟩:=hfin _ _ hok
  refine con_fn O (fn142 b w.params) (by decide) (ent142 b w.params N T (.ref ls) (.int 1 tr)) ?_
  intro A s h hz hA hu hN D hN1
  have hN3:((N + 2:Nat) == sysModules) = false:=new_ne D.top hN1
  have D1:Rep (cfg b w.params) ([(ls,lst vs e2)].map (·.1)) s.heap [(N,frM2 w.params ls 1 (kI T (T + 1) 0 0 0 0 tr 0)),(N + 1,cel none),(ls,lst vs e2)] h:=D.perm (L':=[(N,frM2 w.params ls 1 (kI T (T + 1) 0 0 0 0 tr 0)),(N + 1,cel none),(ls,lst vs e2)]) ((List.Perm.swap _ _ _).trans ((List.Perm.swap _ _ _).cons _))
  match hbm:outF 1 xs [(sg [],0)],f1,f2,f3,hm with
  | [],f1,_,_,_=>exact absurd f1 (by simp)
  | q :: rest,f1,f2,f3,hm=>
    have hmx:mxF (rest.map valF) (valF q) = m:=by
      unfold mostF at hm
      rw [hbm] at hm
      exact hm
    obtain ⟨esw,hesw⟩:∃ es,DK w es (q :: rest):=by
      have:∀ (l:List PySem.Str) (es:Array DictEntry) (bs:List (PySem.Str × Int)),DK w es bs → ∃ es',DK w es' (outF 1 l bs):=by
        intro l
        induction l with
        | nil=>intro es bs h; exact ⟨es,h⟩
        | cons x l ih=>
          intro es bs h
          obtain ⟨es1,h1⟩:=dk_mid 1 x bs #[] [] (DK.nil w)
          exact ih es1 _ h1
      obtain ⟨es',h'⟩:=this xs _ _ (dk_first (w:=w) (T:=0))
      exact ⟨es',by rw [hbm] at h'; exact h'⟩
    refine code_run O hz (mb b w.params _ _ N (N + 1) ls (kI T (T + 1) 0 0 0 0 tr 0) 1 vs e2 m (fun z=>DK w z.es (q :: rest) ∧ (z.bd == sysModules) = false) ⟨⟨0,esw,0,0,fun _=>0,sg [],0,sg [],sg [],sg [],0,0,0⟩,hesw,rfl⟩ (fun _ y=>IX y.vs ((q :: rest).map valF)) (fun _=>⟨⟨0,_,0,0,sg [],0,0,0⟩,ix_any _⟩)) D1 hN1
      (HHx 4 ⟨⟨by decide,(con_mo1 O hvs h0 hN3 dk_first hbm hok).mono (Mine.bd hA rfl) (Mine.bd hu rfl)⟩,fun z1=>⟨by decide,conDIter z1.2.2⟩,fun z1 _=>⟨by decide,(con_cs O z1.2.1 f1 f2 f3 rfl).mono (Mine.bd hA rfl) (Mine.bd hu rfl)⟩,fun z1 _ z3=>⟨by decide,conMaxL O z3.2 hmx⟩,fun _ _ _ _=>trivial,fun z1 _ z3 z4=>?_⟩)
    intro h' D' hN'
    exact ⟨(_,_,_),rfl,aft_plain (q:=⟨.ret (.int m z4.2.2),[lst vs e2],[],_,_⟩) (D'.sublist (L':=[(ls,lst vs e2)]) (.cons _ (.cons _ (.cons_cons _ (List.nil_sublist _))))) rfl hN' rfl⟩
theorem loop_mo2 {aF aC ls io b0:Addr} {o0:Obj} {vs:List Value} {e2:Nat} {A:Around} {R:Result → Shared → Prop} {S:List Addr} {h₀:Heap} {g:Array GenState} {d:Drawn} {os:OsState}
    (hz:A.handled = none) (hd:A.depth ≤ 548) (hu:A.units ≤ 5480) (qs:List (PySem.Str × Tok)) (hvs:vs = qs.map fun p=>.str p.1 p.2) (want:List (PySem.Str × Int))
    (hend:∀ bd i k x0 gd x1 y1 y2 f es e h N T,(bd == sysModules) = false → DK w es want → Rep (cfg b w.params) S h₀ [(aF,frM8 w.params ls 2 k x0 gd x1 y1 y2 f),(aC,cel (some (.ref bd))),(ls,lst vs e2),(io,fds "list_iterator" [.none,.int i 0]),(b0,o0),(bd,dob es e)] h → h.objs.size = N → R (.ok .next) ⟨h,g,d,T,os⟩) :
    ∀ (rest:List (PySem.Str × Tok)) (ii:Nat) (i:Int) (bd:Addr) (k:Nat → Tok) (x0:PySem.Str) (gd:Addr) (x1 y1 y2:PySem.Str) (f:Int) (es:Array DictEntry) (e:Nat) (best:List (PySem.Str × Int)) (h:Heap) (N T:Nat),i = ii → qs.drop ii = rest → (bd == sysModules) = false → DK w es best →
      outF 2 (rest.map (·.1)) best = want → outOk 2 (rest.map (·.1)) best = true → Rep (cfg b w.params) S h₀ [(aF,frM8 w.params ls 2 k x0 gd x1 y1 y2 f),(aC,cel (some (.ref bd))),(ls,lst vs e2),(io,fds "list_iterator" [.ref ls,.int i 0]),(b0,o0),(bd,dob es e)] h → h.objs.size = N → codeAny (model PG w) A (fl142O aF aC io) R ⟨h,g,d,T,os⟩
  | [],ii,i,bd,k,x0,gd,x1,y1,y2,f,es,e,best,h,N,T,hi,hr,hbd,hbest,hw,hok,D,hN=>by
    have hv:vs[ii]? = none:=by
      rw [List.drop_eq_nil_iff] at hr
      rw [hvs]; simpa using hr
    refine code_run O hz (moz b w.params N T aF aC ls bd gd io k x0 x1 x0 y1 y2 0 i 2 f vs es e e2 b0 o0 (fun _=>True) ⟨⟨#[],0,0,fun _=>0,x0,x0,x0,0,0,0⟩,trivial⟩) D hN (HHx 1 ⟨⟨by decide,conLItE O hi hv⟩,fun _=>trivial,fun _=>?_⟩)
    intro h' D' hN' hq
    refine ⟨hq,block_nil (hend bd i k x0 gd x1 y1 y2 f es e h' _ _ hbd ?_ (Rep.sub D') hN')⟩
    rw [← hw]; exact hbest
  | p :: rest,ii,i,bd,k,x0,gd,x1,y1,y2,f,es,e,best,h,N,T,hi,hr,hbd,hbest,hw,hok,D,hN=>by
    have hv:vs[ii]? = some (.str p.1 p.2):=by
      have:qs[ii]? = some p:=by
        have:=congrArg List.head? hr
        simpa using this
      rw [hvs,List.getElem?_map,this]; rfl
    have hr':qs.drop (ii + 1) = rest:=by
      have:=congrArg List.tail hr
      simpa using this
    rw [List.map_cons,outOk,Bool.and_eq_true] at hok
    obtain ⟨hmid,hok2⟩:=hok
    obtain ⟨es0,hes0⟩:=dk_mid 2 p.1 best #[] [] (DK.nil w)
    have hgd:=new_ne D.top hN
    refine code_run O hz (mo8 b w.params N T aF aC ls bd gd io k x0 x1 p.1 y1 y2 p.2 i 2 f vs es e e2 b0 o0 (fun z=>DK w z.es (midF 2 p.1 best [])) ⟨⟨es0,0,0,fun _=>0,x0,x0,x0,0,0,0⟩,hes0⟩) D hN
      (HHx 3 ⟨⟨by decide,conLIt hi hv⟩,fun _=>⟨by decide,conDIter hbd⟩,fun _ _=>⟨by decide,(con_mm8_2 (k:=fun j=>match j with | 12=>p.2 | j=>k j) O hbest hgd (DK.nil w) rfl hmid).mono (Mine.bd hd rfl) (Mine.bd hu rfl)⟩,fun _ _ _=>trivial,fun _ _ z3=>?_⟩)
    intro h' D' hN' hq
    refine ⟨hq,loop_mo2 hz hd hu qs hvs want hend rest (ii + 1) (i + 1) N z3.1.k p.1 N z3.1.x1 z3.1.y1 z3.1.y2 z3.1.f z3.1.es z3.1.e _ h' _ _ (by rw [hi]; rfl) hr' hgd z3.2 hw hok2 (D'.sublist (.cons_cons _ (.cons_cons _ (.cons_cons _ (.cons_cons _ (.cons_cons _ (.cons _ (.cons_cons _ (List.nil_sublist _))))))))) hN'⟩
theorem con_mo2 {aF aC ls bd io:Addr} {vs:List Value} {xs:List PySem.Str} {es:Array DictEntry} {e e2 N T:Nat} {k:Nat → Tok} {v:Int} {best want:List (PySem.Str × Int)} (hvs:TX vs xs) (h0:xs ≠ []) (hbd:(bd == sysModules) = false) (hbest:DK w es ((sg [],v) :: best))
    (hw:outF 2 xs ((sg [],v) :: best) = want) (hok:outOk 2 xs ((sg [],v) :: best) = true) :
    CG w b 548 5480 (fl142O aF aC io) [(aF,frM2 w.params ls 2 k),(aC,cel (some (.ref bd))),(ls,lst vs e2),(io,fds "list_iterator" [.ref ls,.int 0 0]),(bd,dob es e)] N T
      (fun z:{z:MO // DK w z.es want ∧ (z.bd == sysModules) = false}=>⟨.next,[frM8 w.params ls 2 z.1.k z.1.x0 z.1.gd z.1.x1 z.1.y1 z.1.y2 z.1.f,cel (some (.ref z.1.bd)),lst vs e2,fds "list_iterator" [.none,.int z.1.i 0],dob es e],[(z.1.bd,dob z.1.es z.1.e)],z.1.N,z.1.T⟩):=by
  refine coni fun A h g dr os G hz hd hu D hN hG=>?_
  obtain ⟨qs,hq1,hq2⟩:=hvs
  cases qs with
  | nil=>exact absurd hq2.symm h0
  | cons p rest=>
    have hv:vs[0]? = some (.str p.1 p.2):=by rw [hq1]; rfl
    rw [← hq2,List.map_cons,outOk,Bool.and_eq_true] at hok
    obtain ⟨hmid,hok2⟩:=hok
    rw [← hq2,List.map_cons,outF] at hw
    obtain ⟨es0,hes0⟩:=dk_mid 2 p.1 ((sg [],v) :: best) #[] [] (DK.nil w)
    have hgd:=new_ne D.top hN
    refine hG ?_
    refine code_run O hz (mo2 b w.params N T aF aC ls bd 0 io k p.1 p.1 p.1 p.1 p.1 p.2 0 2 0 vs es e e2 0 (dob #[] 0) (fun z=>DK w z.es (midF 2 p.1 ((sg [],v) :: best) [])) ⟨⟨es0,0,0,fun _=>0,p.1,p.1,p.1,0,0,0⟩,hes0⟩) D hN
      (HHx 3 ⟨⟨by decide,conLIt (i:=0) rfl hv⟩,fun _=>⟨by decide,conDIter hbd⟩,fun _ _=>⟨by decide,(con_mm4_2 (k:=fun j=>match j with | 2=>T | 3=>T + 1 | 12=>p.2 | j=>k j) O hbest hgd (DK.nil w) rfl hmid).mono (Mine.bd hd rfl) (Mine.bd hu rfl)⟩,fun _ _ _=>trivial,fun _ _ z3=>?_⟩)
    intro h' D' hN' hq
    refine ⟨hq,loop_mo2 O hz hd hu (p :: rest) hq1 want ?_ rest 1 (0 + 1) N z3.1.k p.1 N z3.1.x1 z3.1.y1 z3.1.y2 z3.1.f z3.1.es z3.1.e _ h' _ _ rfl rfl hgd z3.2 hw hok2 (Rep.sub (L':=[_]) D') hN'⟩
    intro bd' i' k' x0' gd' x1' y1' y2' f' es' e' h2 N2 T2 hb' hk' D2 hN2
    exact ⟨⟨⟨bd',es',e',i',k',x0',gd',x1',y1',y2',f',N2,T2⟩,hk',hb'⟩,rfl,aft_ix (q:=⟨.next,[frM8 w.params ls 2 k' x0' gd' x1' y1' y2' f',cel (some (.ref bd')),lst vs e2,fds "list_iterator" [.none,.int i' 0],dob es e],[(bd',dob es' e')],N2,T2⟩) D2 rfl hN2 rfl [0] (by decide) rfl⟩
theorem con_most2 {ls:Addr} {vs:List Value} {xs:List PySem.Str} {e2 N T:Nat} {tr:Tok} {m:Int} (hvs:TX vs xs) (h0:xs ≠ []) (hok:outOk 2 xs [(sg [],0)] = true) (hm:mostF 2 xs = m) :
    CG w b 540 5400 (.call (.ref 142) ⟨[.ref ls,.int 2 tr],[]⟩) [(ls,lst vs e2)] N T (fun z:Nat × Nat × Tok=>⟨.ret (.int m z.2.2),[lst vs e2],[],z.1,z.2.1⟩):=by
  have hfin:∀ (l:List PySem.Str) (bs:List (PySem.Str × Int)),outOk 2 l bs = true → 0 < (outF 2 l bs).length ∧ (outF 2 l bs).length ≤ 1000 ∧ (outF 2 l bs).all (fun p=>decide (p.1.length ≤ 1000)) = true:=by
    intro l
    induction l with
    | nil=>
      intro bs h
      rw [outOk,Bool.and_eq_true,Bool.and_eq_true] at h
      exact ⟨of_decide_eq_true h.1.1,of_decide_eq_true h.1.2,h.2⟩
    | cons x l ih=>
      intro bs h
      rw [outOk,Bool.and_eq_true] at h
      exact ih _ h.2
  obtain ⟨f1,f2,f3⟩:=hfin _ _ hok
  refine con_fn O (fn142 b w.params) (by decide) (ent142 b w.params N T (.ref ls) (.int 2 tr)) ?_
  intro A s h hz hA hu hN D hN1
  have hN3:((N + 2:Nat) == sysModules) = false:=new_ne D.top hN1
  have D1:Rep (cfg b w.params) ([(ls,lst vs e2)].map (·.1)) s.heap [(N,frM2 w.params ls 2 (kI T (T + 1) 0 0 0 0 tr 0)),(N + 1,cel none),(ls,lst vs e2)] h:=D.perm (L':=[(N,frM2 w.params ls 2 (kI T (T + 1) 0 0 0 0 tr 0)),(N + 1,cel none),(ls,lst vs e2)]) ((List.Perm.swap _ _ _).trans ((List.Perm.swap _ _ _).cons _))
  match hbm:outF 2 xs [(sg [],0)],f1,f2,f3,hm with
  | [],f1,_,_,_=>exact absurd f1 (by simp)
  | q :: rest,f1,f2,f3,hm=>
    have hmx:mxF (rest.map valF) (valF q) = m:=by
      unfold mostF at hm
      rw [hbm] at hm
      exact hm
    obtain ⟨esw,hesw⟩:∃ es,DK w es (q :: rest):=by
      have:∀ (l:List PySem.Str) (es:Array DictEntry) (bs:List (PySem.Str × Int)),DK w es bs → ∃ es',DK w es' (outF 2 l bs):=by
        intro l
        induction l with
        | nil=>intro es bs h; exact ⟨es,h⟩
        | cons x l ih=>
          intro es bs h
          obtain ⟨es1,h1⟩:=dk_mid 2 x bs #[] [] (DK.nil w)
          exact ih es1 _ h1
      obtain ⟨es',h'⟩:=this xs _ _ (dk_first (w:=w) (T:=0))
      exact ⟨es',by rw [hbm] at h'; exact h'⟩
    refine code_run O hz (mb b w.params _ _ N (N + 1) ls (kI T (T + 1) 0 0 0 0 tr 0) 2 vs e2 m (fun z=>DK w z.es (q :: rest) ∧ (z.bd == sysModules) = false) ⟨⟨0,esw,0,0,fun _=>0,sg [],0,sg [],sg [],sg [],0,0,0⟩,hesw,rfl⟩ (fun _ y=>IX y.vs ((q :: rest).map valF)) (fun _=>⟨⟨0,_,0,0,sg [],0,0,0⟩,ix_any _⟩)) D1 hN1
      (HHx 4 ⟨⟨by decide,(con_mo2 O hvs h0 hN3 dk_first hbm hok).mono (Mine.bd hA rfl) (Mine.bd hu rfl)⟩,fun z1=>⟨by decide,conDIter z1.2.2⟩,fun z1 _=>⟨by decide,(con_cs O z1.2.1 f1 f2 f3 rfl).mono (Mine.bd hA rfl) (Mine.bd hu rfl)⟩,fun z1 _ z3=>⟨by decide,conMaxL O z3.2 hmx⟩,fun _ _ _ _=>trivial,fun z1 _ z3 z4=>?_⟩)
    intro h' D' hN'
    exact ⟨(_,_,_),rfl,aft_plain (q:=⟨.ret (.int m z4.2.2),[lst vs e2],[],_,_⟩) (D'.sublist (L':=[(ls,lst vs e2)]) (.cons _ (.cons _ (.cons_cons _ (List.nil_sublist _))))) rfl hN' rfl⟩
theorem loop_mo3 {aF aC ls io b0:Addr} {o0:Obj} {vs:List Value} {e2:Nat} {A:Around} {R:Result → Shared → Prop} {S:List Addr} {h₀:Heap} {g:Array GenState} {d:Drawn} {os:OsState}
    (hz:A.handled = none) (hd:A.depth ≤ 548) (hu:A.units ≤ 5480) (qs:List (PySem.Str × Tok)) (hvs:vs = qs.map fun p=>.str p.1 p.2) (want:List (PySem.Str × Int))
    (hend:∀ bd i k x0 gd x1 y1 y2 f es e h N T,(bd == sysModules) = false → DK w es want → Rep (cfg b w.params) S h₀ [(aF,frM8 w.params ls 3 k x0 gd x1 y1 y2 f),(aC,cel (some (.ref bd))),(ls,lst vs e2),(io,fds "list_iterator" [.none,.int i 0]),(b0,o0),(bd,dob es e)] h → h.objs.size = N → R (.ok .next) ⟨h,g,d,T,os⟩) :
    ∀ (rest:List (PySem.Str × Tok)) (ii:Nat) (i:Int) (bd:Addr) (k:Nat → Tok) (x0:PySem.Str) (gd:Addr) (x1 y1 y2:PySem.Str) (f:Int) (es:Array DictEntry) (e:Nat) (best:List (PySem.Str × Int)) (h:Heap) (N T:Nat),i = ii → qs.drop ii = rest → (bd == sysModules) = false → DK w es best →
      outF 3 (rest.map (·.1)) best = want → outOk 3 (rest.map (·.1)) best = true → Rep (cfg b w.params) S h₀ [(aF,frM8 w.params ls 3 k x0 gd x1 y1 y2 f),(aC,cel (some (.ref bd))),(ls,lst vs e2),(io,fds "list_iterator" [.ref ls,.int i 0]),(b0,o0),(bd,dob es e)] h → h.objs.size = N → codeAny (model PG w) A (fl142O aF aC io) R ⟨h,g,d,T,os⟩
  | [],ii,i,bd,k,x0,gd,x1,y1,y2,f,es,e,best,h,N,T,hi,hr,hbd,hbest,hw,hok,D,hN=>by
    have hv:vs[ii]? = none:=by
      rw [List.drop_eq_nil_iff] at hr
      rw [hvs]; simpa using hr
    refine code_run O hz (moz b w.params N T aF aC ls bd gd io k x0 x1 x0 y1 y2 0 i 3 f vs es e e2 b0 o0 (fun _=>True) ⟨⟨#[],0,0,fun _=>0,x0,x0,x0,0,0,0⟩,trivial⟩) D hN (HHx 1 ⟨⟨by decide,conLItE O hi hv⟩,fun _=>trivial,fun _=>?_⟩)
    intro h' D' hN' hq
    refine ⟨hq,block_nil (hend bd i k x0 gd x1 y1 y2 f es e h' _ _ hbd ?_ (Rep.sub D') hN')⟩
    rw [← hw]; exact hbest
  | p :: rest,ii,i,bd,k,x0,gd,x1,y1,y2,f,es,e,best,h,N,T,hi,hr,hbd,hbest,hw,hok,D,hN=>by
    have hv:vs[ii]? = some (.str p.1 p.2):=by
      have:qs[ii]? = some p:=by
        have:=congrArg List.head? hr
        simpa using this
      rw [hvs,List.getElem?_map,this]; rfl
    have hr':qs.drop (ii + 1) = rest:=by
      have:=congrArg List.tail hr
      simpa using this
    rw [List.map_cons,outOk,Bool.and_eq_true] at hok
    obtain ⟨hmid,hok2⟩:=hok
    obtain ⟨es0,hes0⟩:=dk_mid 3 p.1 best #[] [] (DK.nil w)
    have hgd:=new_ne D.top hN
    refine code_run O hz (mo8 b w.params N T aF aC ls bd gd io k x0 x1 p.1 y1 y2 p.2 i 3 f vs es e e2 b0 o0 (fun z=>DK w z.es (midF 3 p.1 best [])) ⟨⟨es0,0,0,fun _=>0,x0,x0,x0,0,0,0⟩,hes0⟩) D hN
      (HHx 3 ⟨⟨by decide,conLIt hi hv⟩,fun _=>⟨by decide,conDIter hbd⟩,fun _ _=>⟨by decide,(con_mm8_3 (k:=fun j=>match j with | 12=>p.2 | j=>k j) O hbest hgd (DK.nil w) rfl hmid).mono (Mine.bd hd rfl) (Mine.bd hu rfl)⟩,fun _ _ _=>trivial,fun _ _ z3=>?_⟩)
    intro h' D' hN' hq
    refine ⟨hq,loop_mo3 hz hd hu qs hvs want hend rest (ii + 1) (i + 1) N z3.1.k p.1 N z3.1.x1 z3.1.y1 z3.1.y2 z3.1.f z3.1.es z3.1.e _ h' _ _ (by rw [hi]; rfl) hr' hgd z3.2 hw hok2 (D'.sublist (.cons_cons _ (.cons_cons _ (.cons_cons _ (.cons_cons _ (.cons_cons _ (.cons _ (.cons_cons _ (List.nil_sublist _))))))))) hN'⟩
theorem con_mo3 {aF aC ls bd io:Addr} {vs:List Value} {xs:List PySem.Str} {es:Array DictEntry} {e e2 N T:Nat} {k:Nat → Tok} {v:Int} {best want:List (PySem.Str × Int)} (hvs:TX vs xs) (h0:xs ≠ []) (hbd:(bd == sysModules) = false) (hbest:DK w es ((sg [],v) :: best))
    (hw:outF 3 xs ((sg [],v) :: best) = want) (hok:outOk 3 xs ((sg [],v) :: best) = true) :
    CG w b 548 5480 (fl142O aF aC io) [(aF,frM2 w.params ls 3 k),(aC,cel (some (.ref bd))),(ls,lst vs e2),(io,fds "list_iterator" [.ref ls,.int 0 0]),(bd,dob es e)] N T
      (fun z:{z:MO // DK w z.es want ∧ (z.bd == sysModules) = false}=>⟨.next,[frM8 w.params ls 3 z.1.k z.1.x0 z.1.gd z.1.x1 z.1.y1 z.1.y2 z.1.f,cel (some (.ref z.1.bd)),lst vs e2,fds "list_iterator" [.none,.int z.1.i 0],dob es e],[(z.1.bd,dob z.1.es z.1.e)],z.1.N,z.1.T⟩):=by
  refine coni fun A h g dr os G hz hd hu D hN hG=>?_
  obtain ⟨qs,hq1,hq2⟩:=hvs
  cases qs with
  | nil=>exact absurd hq2.symm h0
  | cons p rest=>
    have hv:vs[0]? = some (.str p.1 p.2):=by rw [hq1]; rfl
    rw [← hq2,List.map_cons,outOk,Bool.and_eq_true] at hok
    obtain ⟨hmid,hok2⟩:=hok
    rw [← hq2,List.map_cons,outF] at hw
    obtain ⟨es0,hes0⟩:=dk_mid 3 p.1 ((sg [],v) :: best) #[] [] (DK.nil w)
    have hgd:=new_ne D.top hN
    refine hG ?_
    refine code_run O hz (mo2 b w.params N T aF aC ls bd 0 io k p.1 p.1 p.1 p.1 p.1 p.2 0 3 0 vs es e e2 0 (dob #[] 0) (fun z=>DK w z.es (midF 3 p.1 ((sg [],v) :: best) [])) ⟨⟨es0,0,0,fun _=>0,p.1,p.1,p.1,0,0,0⟩,hes0⟩) D hN
      (HHx 3 ⟨⟨by decide,conLIt (i:=0) rfl hv⟩,fun _=>⟨by decide,conDIter hbd⟩,fun _ _=>⟨by decide,(con_mm4_3 (k:=fun j=>match j with | 2=>T | 3=>T + 1 | 12=>p.2 | j=>k j) O hbest hgd (DK.nil w) rfl hmid).mono (Mine.bd hd rfl) (Mine.bd hu rfl)⟩,fun _ _ _=>trivial,fun _ _ z3=>?_⟩)
    intro h' D' hN' hq
    refine ⟨hq,loop_mo3 O hz hd hu (p :: rest) hq1 want ?_ rest 1 (0 + 1) N z3.1.k p.1 N z3.1.x1 z3.1.y1 z3.1.y2 z3.1.f z3.1.es z3.1.e _ h' _ _ rfl rfl hgd z3.2 hw hok2 (Rep.sub (L':=[_]) D') hN'⟩
    intro bd' i' k' x0' gd' x1' y1' y2' f' es' e' h2 N2 T2 hb' hk' D2 hN2
    exact ⟨⟨⟨bd',es',e',i',k',x0',gd',x1',y1',y2',f',N2,T2⟩,hk',hb'⟩,rfl,aft_ix (q:=⟨.next,[frM8 w.params ls 3 k' x0' gd' x1' y1' y2' f',cel (some (.ref bd')),lst vs e2,fds "list_iterator" [.none,.int i' 0],dob es e],[(bd',dob es' e')],N2,T2⟩) D2 rfl hN2 rfl [0] (by decide) rfl⟩
theorem con_most3 {ls:Addr} {vs:List Value} {xs:List PySem.Str} {e2 N T:Nat} {tr:Tok} {m:Int} (hvs:TX vs xs) (h0:xs ≠ []) (hok:outOk 3 xs [(sg [],0)] = true) (hm:mostF 3 xs = m) :
    CG w b 540 5400 (.call (.ref 142) ⟨[.ref ls,.int 3 tr],[]⟩) [(ls,lst vs e2)] N T (fun z:Nat × Nat × Tok=>⟨.ret (.int m z.2.2),[lst vs e2],[],z.1,z.2.1⟩):=by
  have hfin:∀ (l:List PySem.Str) (bs:List (PySem.Str × Int)),outOk 3 l bs = true → 0 < (outF 3 l bs).length ∧ (outF 3 l bs).length ≤ 1000 ∧ (outF 3 l bs).all (fun p=>decide (p.1.length ≤ 1000)) = true:=by
    intro l
    induction l with
    | nil=>
      intro bs h
      rw [outOk,Bool.and_eq_true,Bool.and_eq_true] at h
      exact ⟨of_decide_eq_true h.1.1,of_decide_eq_true h.1.2,h.2⟩
    | cons x l ih=>
      intro bs h
      rw [outOk,Bool.and_eq_true] at h
      exact ih _ h.2
  obtain ⟨f1,f2,f3⟩:=hfin _ _ hok
  refine con_fn O (fn142 b w.params) (by decide) (ent142 b w.params N T (.ref ls) (.int 3 tr)) ?_
  intro A s h hz hA hu hN D hN1
  have hN3:((N + 2:Nat) == sysModules) = false:=new_ne D.top hN1
  have D1:Rep (cfg b w.params) ([(ls,lst vs e2)].map (·.1)) s.heap [(N,frM2 w.params ls 3 (kI T (T + 1) 0 0 0 0 tr 0)),(N + 1,cel none),(ls,lst vs e2)] h:=D.perm (L':=[(N,frM2 w.params ls 3 (kI T (T + 1) 0 0 0 0 tr 0)),(N + 1,cel none),(ls,lst vs e2)]) ((List.Perm.swap _ _ _).trans ((List.Perm.swap _ _ _).cons _))
  match hbm:outF 3 xs [(sg [],0)],f1,f2,f3,hm with
  | [],f1,_,_,_=>exact absurd f1 (by simp)
  | q :: rest,f1,f2,f3,hm=>
    have hmx:mxF (rest.map valF) (valF q) = m:=by
      unfold mostF at hm
      rw [hbm] at hm
      exact hm
    obtain ⟨esw,hesw⟩:∃ es,DK w es (q :: rest):=by
      have:∀ (l:List PySem.Str) (es:Array DictEntry) (bs:List (PySem.Str × Int)),DK w es bs → ∃ es',DK w es' (outF 3 l bs):=by
        intro l
        induction l with
        | nil=>intro es bs h; exact ⟨es,h⟩
        | cons x l ih=>
          intro es bs h
          obtain ⟨es1,h1⟩:=dk_mid 3 x bs #[] [] (DK.nil w)
          exact ih es1 _ h1
      obtain ⟨es',h'⟩:=this xs _ _ (dk_first (w:=w) (T:=0))
      exact ⟨es',by rw [hbm] at h'; exact h'⟩
    refine code_run O hz (mb b w.params _ _ N (N + 1) ls (kI T (T + 1) 0 0 0 0 tr 0) 3 vs e2 m (fun z=>DK w z.es (q :: rest) ∧ (z.bd == sysModules) = false) ⟨⟨0,esw,0,0,fun _=>0,sg [],0,sg [],sg [],sg [],0,0,0⟩,hesw,rfl⟩ (fun _ y=>IX y.vs ((q :: rest).map valF)) (fun _=>⟨⟨0,_,0,0,sg [],0,0,0⟩,ix_any _⟩)) D1 hN1
      (HHx 4 ⟨⟨by decide,(con_mo3 O hvs h0 hN3 dk_first hbm hok).mono (Mine.bd hA rfl) (Mine.bd hu rfl)⟩,fun z1=>⟨by decide,conDIter z1.2.2⟩,fun z1 _=>⟨by decide,(con_cs O z1.2.1 f1 f2 f3 rfl).mono (Mine.bd hA rfl) (Mine.bd hu rfl)⟩,fun z1 _ z3=>⟨by decide,conMaxL O z3.2 hmx⟩,fun _ _ _ _=>trivial,fun z1 _ z3 z4=>?_⟩)
    intro h' D' hN'
    exact ⟨(_,_,_),rfl,aft_plain (q:=⟨.ret (.int m z4.2.2),[lst vs e2],[],_,_⟩) (D'.sublist (L':=[(ls,lst vs e2)]) (.cons _ (.cons _ (.cons_cons _ (List.nil_sublist _))))) rfl hN' rfl⟩
end
end
end Mine
end
section
namespace Mine
section
variable (b:Bool) (P:Params) (N T:Nat)
theorem sm0 (sc aC:Addr) (vs:List Value) (oC:Obj) (e:Nat):Sg b P 17 [1,1,1,3] [0,0] (.builtin "sum" ⟨[(.ref sc)],[]⟩) [(sc,(lst vs e)),(aC,oC)] N T (.fin (.ok (.again (.builtin "sum.loop" ⟨[(.ref N),(.ref (N + 1)),(.int 0 0),(.int 0 0)],[]⟩))) [(sc,(lst vs e)),(aC,oC),(N,(LI [(.ref sc),(.int 0 0)])),((N + 1),(lst [(.int 0 T)] 0))] (N + 2) (T + 1)):=fx 0 trivial (by kernel_rfl)
end
section
open PyProof.Rows PySem.Builtin PySem.Builtin.Str
section
variable {prog:Program} {w:World} {C:Cf}
theorem plain_imod:plainId "int.__mod__" = true:=by decide +kernel
theorem plain_ifd:plainId "int.__floordiv__" = true:=by decide +kernel
theorem plain_ieq:plainId "int.__eq__" = true:=by decide +kernel
theorem plain_ladd:plainId "list.__add__" = true:=by decide +kernel
theorem plain_lget:plainId "list.__getitem__" = true:=by decide +kernel
theorem conIMod {d u N T:Nat} {x y r:Int} {t k:Tok} (hy:y ≠ 0) (hr:x.fmod y = r):Con prog w C d u (.builtin "int.__mod__" ⟨[.int x t,.int y k],[]⟩) [] N T (fun _:Unit=>⟨.ret (.int r T),[],[],N,T + 1⟩):=by
  refine con_meets F.entry_int_mod plain_imod (AutoIntG6.int___mod___int_int_1 x t y k (by simpa using hy)).meets ?_
  intro A s hz hh nd hN hT
  subst hN hT hr
  exact ⟨(),rfl,aft_tok (k:=1) hh⟩
theorem conIFd {d u N T:Nat} {x y r:Int} {t k:Tok} (hy:y = 5 ∨ y = 2) (hr:x.fdiv y = r):Con prog w C d u (.builtin "int.__floordiv__" ⟨[.int x t,.int y k],[]⟩) [] N T (fun _:Unit=>⟨.ret (.int r T),[],[],N,T + 1⟩):=by
  have h1:¬ (y == 0) = true:=by rcases hy with rfl | rfl <;> decide
  have h2:¬ (divisionGoesByPylong x y) = true:=by
    rcases hy with rfl | rfl
    · intro h; unfold divisionGoesByPylong at h; simp at h; have:=h.1; revert this; decide
    · intro h; unfold divisionGoesByPylong at h; simp at h; have:=h.1; revert this; decide
  refine con_meets F.entry_int_floordiv plain_ifd (AutoIntG4.int___floordiv___int_int_1 x t y k h1 h2).meets ?_
  intro A s hz hh nd hN hT
  subst hN hT hr
  exact ⟨(),rfl,aft_tok (k:=1) hh⟩
theorem conIEq {d u N T:Nat} {x y:Int} {t k:Tok} {v:Bool} (hv:(x == y) = v):Con prog w C d u (.builtin "int.__eq__" ⟨[.int x t,.int y k],[]⟩) [] N T (fun _:Unit=>⟨.ret (.bool v),[],[],N,T⟩):=by
  refine con_meets F.entry_int_eq plain_ieq (AutoIntG7.int___eq___int_int_0 x t y k).meets ?_
  intro A s hz hh nd hN hT
  subst hN hT hv
  exact ⟨(),rfl,aft_tok (k:=0) hh⟩
theorem conLAdd {d u N T e e2:Nat} {l l2:Addr} {vs ws:List Value} (hl:vs.length + ws.length ≤ sizeLine) :
    Con prog w C d u (.builtin "list.__add__" ⟨[.ref l,.ref l2],[]⟩) [(l,lst vs e),(l2,lst ws e2)] N T (fun _:Unit=>⟨.ret (.ref N),[lst vs e,lst ws e2],[(N,lst (vs++ws) 0)],N + 1,T⟩):=by
  refine con_meets F.entry_list_add plain_ladd (AutoSeq1.list___add___list_list_0 l ⟨vs⟩ e l2 ⟨ws⟩ e2 (by simpa using hl)) ?_
  intro A s hz hh nd hN hT
  have ho:=hh _ (.head _)
  have ho2:=hh _ (.tail _ (.head _))
  subst hN hT
  refine ⟨ho,ho2,(),rfl,?_⟩
  have:(⟨vs⟩++⟨ws⟩:Array Value) = ⟨vs++ws⟩:=by simp
  rw [this]
  exact aft_pushR (rd:=[(l,lst vs e),(l2,lst ws e2)]) hh rfl
theorem slice_two (vs:List Value):slicePick ⟨vs⟩ none (some 2) none = ⟨vs.take 2⟩:=by
  match vs with
  | []=>rfl
  | [a]=>
    have e:sliceBounds none (some 2) none 1 = sliceBounds none (some ((1:Nat):Int)) none 1:=by decide
    have h1:=slicePick_upto ⟨[a]⟩ 1 (by simp)
    have h2:slicePick ⟨[a]⟩ none (some 2) none = slicePick ⟨[a]⟩ none (some ((1:Nat):Int)) none:=by
      unfold slicePick
      show ((sliceRange (sliceBounds none (some 2) none 1).1 (sliceBounds none (some 2) none 1).2.1 (sliceBounds none (some 2) none 1).2.2).filterMap _).toArray = _
      rw [e]; rfl
    rw [h2,h1]; rfl
  | a :: c :: r=>
    have:=slicePick_upto ⟨a :: c :: r⟩ 2 (by simp)
    simpa using this
theorem conSlice {d u N T e:Nat} {l sl:Addr} {vs:List Value} {t:Tok} (hl:vs.length ≤ sizeLine) :
    Con prog w C d u (.builtin "list.__getitem__" ⟨[.ref l,.ref sl],[]⟩) [(l,lst vs e),(sl,fds "slice" [.none,.int 2 t,.none])] N T (fun _:Unit=>⟨.ret (.ref N),[lst vs e,fds "slice" [.none,.int 2 t,.none]],[(N,lst (vs.take 2) 0)],N + 1,T⟩):=by
  intro A s hz _ _ _ hh nd _ hN hT
  refine codeAny_builtin entry_list_getitem ?_
  rw [Around.under_plainId plain_lget]
  have ho:=hh _ (.head _)
  have hos:=hh _ (.tail _ (.head _))
  have hTs:s.TypeIs (.ref sl) "slice":=⟨_,hos,rfl⟩
  show wpAny _ _ (Builtin.List.listSubscript? (.ref sl) >>= _) _ _ s
  refine wpAny_bind ?_
  unfold Builtin.List.listSubscript?
  refine wpAny_bind (wpAny_specialOf hTs slice_no_index ?_)
  simp only [Option.isNone_none,if_true]
  refine wpAny_pure ?_
  show wpAny _ _ (typeOf (.ref sl) >>= _) _ _ s
  refine wpAny_bind (wpAny_typeOf hTs ?_)
  rw [if_neg (by decide)]
  rw [listSliceParts_eq]
  refine wpAny_bind (wpAny_bind (wpAny_field hos rfl (x:=.none) rfl (wpAny_bind (wpAny_listPart IsPart.none ?_))))
  rw [if_neg (by decide)]
  refine wpAny_bind (wpAny_field hos rfl (x:=.none) rfl (wpAny_bind (wpAny_listPart IsPart.none ?_)))
  refine wpAny_bind (wpAny_field hos rfl (x:=.int 2 t) rfl (wpAny_bind (wpAny_listPart (IsPart.int 2 t) (wpAny_pure ?_))))
  refine wpAny_bind (m:=Builtin.List.listItems (.ref l)) ?_
  unfold Builtin.List.listItems
  refine wpAny_bind (wpAny_seqItems ho rfl (wpAny_pure ?_))
  refine wpAny_bind (wpAny_of_eq (sliceIndices_raw none (some 2) none (⟨vs⟩:Array Value).size (by simp)) ?_)
  refine wpAny_bind (wpAny_newObj_type (wpAny_pure ⟨(),?_,?_⟩) (Nat.le_trans (slicePick_size_le ⟨vs⟩ none (some 2) none) (by simpa using hl)))
  · rw [hN]; rfl
  · subst hN hT
    have e2:=slice_two vs
    unfold slicePick at e2
    rw [e2]
    exact aft_pushR (rd:=[(l,lst vs e),(sl,fds "slice" [.none,.int 2 t,.none])]) hh rfl
end
section
variable {w:World} {b:Bool} (O:(cfg b w.params).Ok PG w)
include O
theorem conSum {d u N T e:Nat} {sc aC:Addr} {oC:Obj} {vs:List Value} {ns:List Int} (hvs:IX vs ns) (hl:N = aC + 1) :
    CG w b d u (.builtin "sum" ⟨[.ref sc],[]⟩) [(sc,lst vs e),(aC,oC)] N T (fun z:Nat × Nat × Tok=>⟨.ret (.int ns.sum z.2.2),[lst vs e,oC],[],z.1,z.2.1⟩):=by
  refine coni fun A h g dr os G hz hd hu D hN hG=>?_
  obtain ⟨ps,h1,h2⟩:=hvs
  refine hG ?_
  refine code_run O hz (sm0 b w.params N T sc aC vs oC e) D hN ?_
  intro h' D' hN' hq
  refine ⟨hq,?_⟩
  have hit:h'.IsListIter N sc 0:=⟨_,D'.has (N,_) (.tail _ (.tail _ (.head _))),rfl,rfl⟩
  have hli:h'.IsList sc (intItems ps.toArray):=⟨_,D'.has (sc,_) (.head _),rfl,e,by rw [h1]; simp [lst,intItems]⟩
  have hne:sc ≠ N:=fun q=>by
    have nd':=D'.nodup
    simp only [List.map_cons,List.nodup_cons,List.mem_cons] at nd'
    exact nd'.1 (.inr (.inl q))
  refine codeAny_sum_loopAnyS (Walks.list (A:=A.in1) hz N sc hne (intItems ps.toArray)).toS (numAt ps.toArray) (fun _ _=>intItems_at) (N + 1) (by
    intro q
    simp only [List.mem_cons,List.not_mem_nil,or_false] at q
    rcases q with q | q
    · exact Nat.succ_ne_self _ q
    · have nd':=D'.nodup
      simp only [List.map_cons,List.nodup_cons,List.mem_cons] at nd'
      exact nd'.1 (.inr (.inr (.inl q.symm)))) (intItems ps.toArray).size 0 ⟨h',g,dr,_,os⟩ _ 0 0 (.inl rfl) (Nat.sub_zero _) (Nat.zero_le _) ⟨hit,hli⟩ (D'.has (N + 1,_) (.tail _ (.tail _ (.tail _ (.head _))))) ?_
  intro s' t' hm
  have hN0:h.objs.size = N:=hN
  have hold:∀ b x,h.get? b = some x → h'.get? b = some x → s'.heap.get? b = some x:=fun b x q q'=>by
    have hb:=Heap.lt_size q
    rw [hN0] at hb
    refine hm.heap b x ?_ q'
    intro m
    rcases List.mem_cons.mp m with m | m
    · rw [m] at hb; exact Nat.lt_irrefl _ (Nat.lt_of_succ_lt hb)
    · rw [List.mem_singleton.mp m] at hb; exact Nat.lt_irrefl _ hb
  have ha:=hold aC oC (D.has (aC,oC) (.tail _ (.head _))) (D'.has (aC,oC) (.tail _ (.head _)))
  have hsum:preSum (numAt ps.toArray) (intItems ps.toArray).size = ns.sum:=by
    have:(intItems ps.toArray).size = ps.toArray.size:=by simp [intItems]
    rw [this,preSum_eq,List.take_of_length_le (by simp),← h2]
  refine ⟨(s'.heap.objs.size,s'.toks,t'),?_,?_⟩
  · rw [hsum]; rfl
  have hg:N ≤ s'.heap.objs.size:=by rw [hl]; exact Heap.lt_size ha
  exact { gens:=hm.gens,drawn:=hm.drawn,os:=hm.os,toks:=rfl,size:=rfl
          grow:=by show h.objs.size ≤ _; rw [hN0]; exact hg
          wr:=fun p hp=>by
            have:p = (sc,lst vs e) ∨ p = (aC,oC):=by simpa using hp
            rcases this with rfl | rfl
            · exact hold _ _ (D.has _ (.head _)) (D'.has _ (.head _))
            · exact ha
          nw:=fun p hp=>by cases hp
          nd:=List.nodup_nil
          keep:=fun b x q n=>hold b x q (D'.keep b x q n) }
end
end
end Mine
end
section
namespace Mine
noncomputable def EX:List Stmt → Env → Sem Flow:=PySem.W.Fast.tw12563942051412417395
theorem EX_eq:EX = execs:=PySem.W.Fast.te12563942051412417395.symm
noncomputable def EV:Expr → Env → Sem Value:=PySem.W.Fast.tw14044960220447912780
theorem EV_eq:EV = eval:=PySem.W.Fast.te14044960220447912780.symm
noncomputable def lawS (i n:Nat):List Stmt:=((bodyOf st147).drop i).take n
noncomputable def fl147A (aF aC it:Addr):Code:=.forLoop (flE st147 3).1 (.ref it) (flE st147 3).2 [] (env147 aF aC)
noncomputable def fl147B (aF aC it:Addr):Code:=.forLoop (flE st147 7).1 (.ref it) (flE st147 7).2 [] (env147 aF aC)
noncomputable def bl147 (aF aC:Addr):Code:=.block [] (env147 aF aC)
noncomputable def valE:Stmt → Expr
  | .Assign _ v _=>v
  | _=>default
noncomputable def testE:Stmt → Expr
  | .If t _ _ _=>t
  | _=>default
noncomputable def leftE:Expr → Expr
  | .Compare l _ _ _=>l
  | _=>default
noncomputable def rightE:Expr → Expr
  | .Compare _ _ r _=>r.headD default
  | _=>default
noncomputable def partE (e:Expr) (i:Nat):Expr:=match e with
  | .BoolOp _ vs _=>vs.getD i default
  | _=>default
noncomputable def stW (i:Nat):Stmt:=(bodyOf st147).getD i (.Pass ⟨0,0,0,0⟩)
noncomputable def ceA:Expr:=valE (stW 5)
noncomputable def ceB:Expr:=leftE (testE (stW 19))
noncomputable def cl147 (e:Expr) (aF aC lo it acc:Addr):Code:=.compLoop e 0 (.ref it) (.ref acc) (cenv e (env147 aF aC) lo)
noncomputable def cs147 (e:Expr) (aF aC lo it acc:Addr):Code:=.compStart e 0 (.ref it) (.ref acc) (cenv e (env147 aF aC) lo)
noncomputable def frW6 (P:Params) (sc sp:Addr) (k:Nat → Tok) (tot:Int) (tx:Str) (xv:Int) (bx':Str):Obj:=frm P [((sg [115,99,114,105,112,116]),(k 0),(.ref sc)),((sg [116,111,116,97,108]),(k 1),(.int tot (k 21))),((sg [115,116,114,105,112]),(k 2),(.ref sp)),((sg [116,101,120,116]),(k 3),(.str tx (k 23))),((sg [120]),(k 4),(.int xv (k 24))),((sg [98,111,120]),(k 5),(.str bx' (k 25)))] 6
structure WF where
  k:Nat → Tok
  tx:Str
  xv:Int
  bx:Str
  sv:List Value
  se:Nat
  i:Int
  N:Nat
  T:Nat
noncomputable def numV (T:Nat) (vs:List Value):List Value:=[.int 1 (T + 4),.int 6 (T + 5),.int 3 (T + 6),.int 0 (T + 7),.int 7 (T + 8)]++vs.take 2
structure WV where
  sc:Addr
  tot:Int
  sp:Addr
  tx:Str
  xv:Int
  bx:Str
  td:Addr
  oth:Addr
  sm:Int
  wd:Int
  sz:Int
  o1:Addr
  o2:Addr
  o3:Addr
  o4:Addr
  du:Addr
  k:Nat → Tok
noncomputable def kW (k:Nat → Tok) (i:Nat) (t:Tok) (j:Nat):Tok:=match Nat.beq j i with
  | true=>t
  | false=>k j
noncomputable def wEnt (V:WV):List (Str × Tok × Value):=[((sg [115,99,114,105,112,116]),V.k 0,.ref V.sc),((sg [116,111,116,97,108]),V.k 1,.int V.tot (V.k 21)),((sg [115,116,114,105,112]),V.k 2,.ref V.sp),((sg [116,101,120,116]),V.k 3,.str V.tx (V.k 23)),((sg [120]),V.k 4,.int V.xv (V.k 24)),((sg [98,111,120]),V.k 5,.str V.bx (V.k 25)),((sg [116,111,108,100]),V.k 6,.ref V.td),((sg [111,116,104,101,114]),V.k 7,.ref V.oth),((sg [115,109,97,108,108]),V.k 8,.int V.sm (V.k 28)),((sg [119,105,100,101]),V.k 9,.int V.wd (V.k 29)),((sg [115,105,122,101]),V.k 10,.int V.sz (V.k 30)),((sg [111,110,101]),V.k 11,.ref V.o1),((sg [116,119,111]),V.k 12,.ref V.o2),((sg [116,104,114,101,101]),V.k 13,.ref V.o3),((sg [102,111,117,114]),V.k 14,.ref V.o4),((sg [100,117,101]),V.k 15,.ref V.du)]
noncomputable def frW (P:Params) (V:WV) (n:Nat):Obj:=frm P ((wEnt V).take n) n
structure LW where
  X:LX
  n:Int
  tn:Tok
  S:List Value
  e:Nat
  cv0:List Value
  N:Nat
  T:Nat
structure PW where
  B:List Value
  e1:Nat
  i:Int
  bx:Str
  k:Nat → Tok
  N:Nat
  T:Nat
end Mine
end
section
namespace Mine
section
variable (b:Bool) (P:Params) (N T:Nat)
theorem wf4 (aF aC sc sp io nl:Addr) (k:Nat → Tok) (tot x xv r q q2 i:Int) (bv:Bool) (x0 x1 x2 x3 x4:Str) (t10:Tok) (vs ws:List Value) (e e1:Nat):Sg b P 101 [3,3,1,1,1,5,5,5,5,1,1,1,2,2,2,2,1,2,1,0,1,1,0,1,1] [0,1,0,1,0,1,0,0,1,0,1,0,1,0,1,1,0,1] (fl147A aF aC io) [(aF,(frm P [(J17,(k 0),(.ref sc)),(J22,(k 1),(.int tot (k 21))),(J3,(k 2),(.ref sp)),(J20,(k 3),(.str x0 (k 23)))] 4)),(sp,(lst vs e)),(io,(LI [(.ref nl),(.int i 0)])),(nl,(lst ws e1))] N T (.ask Unit ⟨(.builtin "list_iterator.__next__" ⟨[(.ref io)],[]⟩),0,0,[(io,(LI [(.ref nl),(.int i 0)])),(nl,(lst ws e1))],N,T⟩ [2,3] (fun z1=>⟨(.ret (.int x t10)),[(LI [(.ref nl),(.int (i + 1) 0)]),(lst ws e1)],[],N,T⟩) fun z1=>.ask Unit ⟨(.builtin "int.__mod__" ⟨[(.int x t10),(.int 5 (T + 6))],[]⟩),0,0,[],(N + 1),(T + 7)⟩ [] (fun z2=>⟨(.ret (.int r (T + 7))),[],[],(N + 1),(T + 8)⟩) fun z2=>.ask Tok ⟨(.builtin "list.__getitem__" ⟨[(.ref N),(.int r (T + 7))],[]⟩),0,0,[(N,(lst [(.str J10 (T + 1)),(.str J31 (T + 2)),(.str J15 (T + 3)),(.str J23 (T + 4)),(.str J21 (T + 5))] 0))],(N + 1),(T + 8)⟩ [4] (fun z3=>⟨(.ret (.str x2 z3)),[(lst [(.str J10 (T + 1)),(.str J31 (T + 2)),(.str J15 (T + 3)),(.str J23 (T + 4)),(.str J21 (T + 5))] 0)],[],(N + 1),(T + 8)⟩) fun z3=>.ask Unit ⟨(.builtin "list.append" ⟨[(.ref sp),(.str x2 z3)],[]⟩),0,0,[(sp,(lst vs e))],(N + 1),(T + 9)⟩ [1] (fun z4=>⟨(.ret .none),[(lst (sn vs (.str x2 z3)) (e + 1))],[],(N + 1),(T + 9)⟩) fun z4=>.ask Unit ⟨(.builtin "int.__floordiv__" ⟨[(.int x t10),(.int 5 (T + 9))],[]⟩),0,0,[],(N + 1),(T + 10)⟩ [] (fun z5=>⟨(.ret (.int q (T + 10))),[],[],(N + 1),(T + 11)⟩) fun z5=>.ask Unit ⟨(.builtin "int.__mod__" ⟨[(.int q (T + 10)),(.int 2 (T + 11))],[]⟩),0,0,[],(N + 1),(T + 12)⟩ [] (fun z6=>⟨(.ret (.int q2 (T + 12))),[],[],(N + 1),(T + 13)⟩) fun z6=>.ask Unit ⟨(.builtin "int.__eq__" ⟨[(.int q2 (T + 12)),(.int 1 (T + 13))],[]⟩),0,0,[],(N + 1),(T + 14)⟩ [] (fun z7=>⟨(.ret (.bool bv)),[],[],(N + 1),(T + 14)⟩) fun z7=>.ask (Nat × Nat × Tok) ⟨(.call (.ref 123) ⟨[(.str x2 z3),(.bool bv)],[]⟩),0,0,[],(N + 1),(T + 14)⟩ [] (fun z8=>⟨(.ret (.str x3 z8.2.2)),[],[],z8.1,z8.2.1⟩) fun z8=>.ask {z:Tok × Nat // @Nat.le (z8.2.1) z.2} ⟨(.builtin "str.__add__" ⟨[(.str x0 (k 23)),(.str x3 z8.2.2)],[]⟩),0,0,[],z8.1,z8.2.1⟩ [] (fun z9=>⟨(.ret (.str x4 z9.1.1)),[],[],z8.1,z9.1.2⟩) fun z9=>.fin (.ok (.again (fl147A aF aC io))) [(aF,(frm P [(J17,(k 0),(.ref sc)),(J22,(k 1),(.int tot (k 21))),(J3,(k 2),(.ref sp)),(J20,(k 3),(.str x4 z9.1.1)),(J24,T,(.int x t10)),(J14,(T + 8),(.str x2 z3))] 6)),(sp,(lst (sn vs (.str x2 z3)) (e + 1))),(io,(LI [(.ref nl),(.int (i + 1) 0)])),(nl,(lst ws e1)),(N,(lst [(.str J10 (T + 1)),(.str J31 (T + 2)),(.str J15 (T + 3)),(.str J23 (T + 4)),(.str J21 (T + 5))] 0))] z8.1 (z9.1.2 + 1)):=fx 9 ⟨⟨()⟩,fun z1=>⟨()⟩,fun z1 z2=>⟨0⟩,fun z1 z2 z3=>⟨()⟩,fun z1 z2 z3 z4=>⟨()⟩,fun z1 z2 z3 z4 z5=>⟨()⟩,fun z1 z2 z3 z4 z5 z6=>⟨()⟩,fun z1 z2 z3 z4 z5 z6 z7=>⟨(0,0,0)⟩,fun z1 z2 z3 z4 z5 z6 z7 z8=>⟨⟨(0,z8.2.1),Nat.le_refl _⟩⟩,fun z1 z2 z3 z4 z5 z6 z7 z8 z9=>trivial⟩ (by kernel_rfl)
theorem wf6 (aF aC sc sp io nl:Addr) (k:Nat → Tok) (tot x xv r q q2 i:Int) (bv:Bool) (x0 x1 x2 x3 x4:Str) (t10:Tok) (vs ws:List Value) (e e1:Nat):Sg b P 101 [3,3,1,1,1,5,5,5,5,1,1,1,2,2,2,2,1,2,1,0,1,1,0,1,1] [0,1,0,1,0,1,0,0,1,0,1,0,1,0,1,1,0,1] (fl147A aF aC io) [(aF,(frm P [(J17,(k 0),(.ref sc)),(J22,(k 1),(.int tot (k 21))),(J3,(k 2),(.ref sp)),(J20,(k 3),(.str x0 (k 23))),(J24,(k 4),(.int xv (k 24))),(J14,(k 5),(.str x1 (k 25)))] 6)),(sp,(lst vs e)),(io,(LI [(.ref nl),(.int i 0)])),(nl,(lst ws e1))] N T (.ask Unit ⟨(.builtin "list_iterator.__next__" ⟨[(.ref io)],[]⟩),0,0,[(io,(LI [(.ref nl),(.int i 0)])),(nl,(lst ws e1))],N,T⟩ [2,3] (fun z1=>⟨(.ret (.int x t10)),[(LI [(.ref nl),(.int (i + 1) 0)]),(lst ws e1)],[],N,T⟩) fun z1=>.ask Unit ⟨(.builtin "int.__mod__" ⟨[(.int x t10),(.int 5 (T + 6))],[]⟩),0,0,[],(N + 1),(T + 7)⟩ [] (fun z2=>⟨(.ret (.int r (T + 7))),[],[],(N + 1),(T + 8)⟩) fun z2=>.ask Tok ⟨(.builtin "list.__getitem__" ⟨[(.ref N),(.int r (T + 7))],[]⟩),0,0,[(N,(lst [(.str J10 (T + 1)),(.str J31 (T + 2)),(.str J15 (T + 3)),(.str J23 (T + 4)),(.str J21 (T + 5))] 0))],(N + 1),(T + 8)⟩ [4] (fun z3=>⟨(.ret (.str x2 z3)),[(lst [(.str J10 (T + 1)),(.str J31 (T + 2)),(.str J15 (T + 3)),(.str J23 (T + 4)),(.str J21 (T + 5))] 0)],[],(N + 1),(T + 8)⟩) fun z3=>.ask Unit ⟨(.builtin "list.append" ⟨[(.ref sp),(.str x2 z3)],[]⟩),0,0,[(sp,(lst vs e))],(N + 1),(T + 9)⟩ [1] (fun z4=>⟨(.ret .none),[(lst (sn vs (.str x2 z3)) (e + 1))],[],(N + 1),(T + 9)⟩) fun z4=>.ask Unit ⟨(.builtin "int.__floordiv__" ⟨[(.int x t10),(.int 5 (T + 9))],[]⟩),0,0,[],(N + 1),(T + 10)⟩ [] (fun z5=>⟨(.ret (.int q (T + 10))),[],[],(N + 1),(T + 11)⟩) fun z5=>.ask Unit ⟨(.builtin "int.__mod__" ⟨[(.int q (T + 10)),(.int 2 (T + 11))],[]⟩),0,0,[],(N + 1),(T + 12)⟩ [] (fun z6=>⟨(.ret (.int q2 (T + 12))),[],[],(N + 1),(T + 13)⟩) fun z6=>.ask Unit ⟨(.builtin "int.__eq__" ⟨[(.int q2 (T + 12)),(.int 1 (T + 13))],[]⟩),0,0,[],(N + 1),(T + 14)⟩ [] (fun z7=>⟨(.ret (.bool bv)),[],[],(N + 1),(T + 14)⟩) fun z7=>.ask (Nat × Nat × Tok) ⟨(.call (.ref 123) ⟨[(.str x2 z3),(.bool bv)],[]⟩),0,0,[],(N + 1),(T + 14)⟩ [] (fun z8=>⟨(.ret (.str x3 z8.2.2)),[],[],z8.1,z8.2.1⟩) fun z8=>.ask {z:Tok × Nat // @Nat.le (z8.2.1) z.2} ⟨(.builtin "str.__add__" ⟨[(.str x0 (k 23)),(.str x3 z8.2.2)],[]⟩),0,0,[],z8.1,z8.2.1⟩ [] (fun z9=>⟨(.ret (.str x4 z9.1.1)),[],[],z8.1,z9.1.2⟩) fun z9=>.fin (.ok (.again (fl147A aF aC io))) [(aF,(frm P [(J17,(k 0),(.ref sc)),(J22,(k 1),(.int tot (k 21))),(J3,(k 2),(.ref sp)),(J20,(k 3),(.str x4 z9.1.1)),(J24,(k 4),(.int x t10)),(J14,(k 5),(.str x2 z3))] 6)),(sp,(lst (sn vs (.str x2 z3)) (e + 1))),(io,(LI [(.ref nl),(.int (i + 1) 0)])),(nl,(lst ws e1)),(N,(lst [(.str J10 (T + 1)),(.str J31 (T + 2)),(.str J15 (T + 3)),(.str J23 (T + 4)),(.str J21 (T + 5))] 0))] z8.1 (z9.1.2 + 1)):=fx 9 ⟨⟨()⟩,fun z1=>⟨()⟩,fun z1 z2=>⟨0⟩,fun z1 z2 z3=>⟨()⟩,fun z1 z2 z3 z4=>⟨()⟩,fun z1 z2 z3 z4 z5=>⟨()⟩,fun z1 z2 z3 z4 z5 z6=>⟨()⟩,fun z1 z2 z3 z4 z5 z6 z7=>⟨(0,0,0)⟩,fun z1 z2 z3 z4 z5 z6 z7 z8=>⟨⟨(0,z8.2.1),Nat.le_refl _⟩⟩,fun z1 z2 z3 z4 z5 z6 z7 z8 z9=>trivial⟩ (by kernel_rfl)
theorem wfz (aF aC sc sp io nl:Addr) (k:Nat → Tok) (tot x xv r q q2 i:Int) (bv:Bool) (x0 x1 x2 x3 x4:Str) (t10:Tok) (vs ws:List Value) (e e1:Nat):Sg b P 12 [3,3,6] [0,1] (fl147A aF aC io) [(aF,(frm P [(J17,(k 0),(.ref sc)),(J22,(k 1),(.int tot (k 21))),(J3,(k 2),(.ref sp)),(J20,(k 3),(.str x0 (k 23))),(J24,(k 4),(.int xv (k 24))),(J14,(k 5),(.str x1 (k 25)))] 6)),(sp,(lst vs e)),(io,(LI [(.ref nl),(.int i 0)])),(nl,(lst ws e1))] N T (.ask Unit ⟨(.builtin "list_iterator.__next__" ⟨[(.ref io)],[]⟩),0,0,[(io,(LI [(.ref nl),(.int i 0)])),(nl,(lst ws e1))],N,T⟩ [2,3] (fun z1=>⟨(.err (.ref (N + 1))),[(LI [.none,(.int i 0)]),(lst ws e1)],[(N,(tup [] 0)),((N + 1),(fds "StopIteration" [(.ref N),.none,.none,.none,(.bool false),.none]))],(N + 2),T⟩) fun z1=>.fin (.ok (.again (bl147 aF aC))) [(aF,(frm P [(J17,(k 0),(.ref sc)),(J22,(k 1),(.int tot (k 21))),(J3,(k 2),(.ref sp)),(J20,(k 3),(.str x0 (k 23))),(J24,(k 4),(.int xv (k 24))),(J14,(k 5),(.str x1 (k 25)))] 6)),(sp,(lst vs e)),(io,(LI [.none,(.int i 0)])),(nl,(lst ws e1)),(N,(tup [] 0)),((N + 1),(fds "StopIteration" [(.ref N),.none,.none,.none,(.bool false),.none]))] (N + 2) T):=fx 1 ⟨⟨()⟩,fun z1=>trivial⟩ (by kernel_rfl)
theorem w1 (aF aC sc:Addr) (k0:Tok) (tot:Int) (vs:List Value) (e:Nat) (GF:WF → Prop) (gf0:{z:WF // GF z}):Sx b P 82 [0,0,2,2,2,2,2,2,2,2,1,1,1,1,5,7,5,5,8,8,8,9] [0,1,0,1,0,1,0,0,1] (cd147 aF aC) (EX (lawS 0 4) (env147 aF aC) >>= fun f=>pure (.done f)) [(sc,(lst vs e)),(aF,(frm P [(J17,k0,(.ref sc))] 1)),(aC,(cel none))] N T (.ask (Nat × Nat × Tok) ⟨(.builtin "sum" ⟨[(.ref sc)],[]⟩),1,3,[(sc,(lst vs e)),(aC,(cel none))],N,T⟩ [0,2] (fun z1=>⟨(.ret (.int tot z1.2.2)),[(lst vs e),(cel none)],[],z1.1,z1.2.1⟩) fun z1=>.ask Unit ⟨(.builtin "list.__getitem__" ⟨[(.ref sc),(.ref (z1.1 + 2))],[]⟩),1,3,[(sc,(lst vs e)),((z1.1 + 2),(fds "slice" [.none,(.int 2 (z1.2.1 + 9)),.none]))],(z1.1 + 3),(z1.2.1 + 10)⟩ [0,5] (fun z2=>⟨(.ret (.ref (z1.1 + 3))),[(lst vs e),(fds "slice" [.none,(.int 2 (z1.2.1 + 9)),.none])],[((z1.1 + 3),(lst (vs.take 2) 0))],(z1.1 + 4),(z1.2.1 + 10)⟩) fun z2=>.ask Unit ⟨(.builtin "list.__add__" ⟨[(.ref (z1.1 + 1)),(.ref (z1.1 + 3))],[]⟩),1,3,[((z1.1 + 1),(lst [(.int 1 (z1.2.1 + 4)),(.int 6 (z1.2.1 + 5)),(.int 3 (z1.2.1 + 6)),(.int 0 (z1.2.1 + 7)),(.int 7 (z1.2.1 + 8))] 0)),((z1.1 + 3),(lst (vs.take 2) 0))],(z1.1 + 4),(z1.2.1 + 10)⟩ [4,6] (fun z3=>⟨(.ret (.ref (z1.1 + 4))),[(lst [(.int 1 (z1.2.1 + 4)),(.int 6 (z1.2.1 + 5)),(.int 3 (z1.2.1 + 6)),(.int 0 (z1.2.1 + 7)),(.int 7 (z1.2.1 + 8))] 0),(lst (vs.take 2) 0)],[((z1.1 + 4),(lst (numV z1.2.1 vs) 0))],(z1.1 + 5),(z1.2.1 + 10)⟩) fun z3=>.ask {z:WF // GF z} ⟨(fl147A aF aC (z1.1 + 5)),1,3,[(aF,(frm P [(J17,k0,(.ref sc)),(J22,z1.2.1,(.int tot z1.2.2)),(J3,(z1.2.1 + 1),(.ref z1.1)),(J20,(z1.2.1 + 3),(.str J10 (z1.2.1 + 2)))] 4)),(z1.1,(lst [] 0)),((z1.1 + 5),(LI [(.ref (z1.1 + 4)),(.int 0 0)])),((z1.1 + 4),(lst (numV z1.2.1 vs) 0))],(z1.1 + 6),(z1.2.1 + 10)⟩ [1,3,8,7] (fun z4=>⟨.next,[(frW6 P sc z1.1 z4.1.k tot z4.1.tx z4.1.xv z4.1.bx),(lst z4.1.sv z4.1.se),(LI [.none,(.int z4.1.i 0)]),(lst (numV z1.2.1 vs) 0)],[],z4.1.N,z4.1.T⟩) fun z4=>.fin (.ok (.done .next)) [(sc,(lst vs e)),(aF,(frW6 P sc z1.1 z4.1.k tot z4.1.tx z4.1.xv z4.1.bx)),(aC,(cel none)),(z1.1,(lst z4.1.sv z4.1.se)),((z1.1 + 1),(lst [(.int 1 (z1.2.1 + 4)),(.int 6 (z1.2.1 + 5)),(.int 3 (z1.2.1 + 6)),(.int 0 (z1.2.1 + 7)),(.int 7 (z1.2.1 + 8))] 0)),((z1.1 + 2),(fds "slice" [.none,(.int 2 (z1.2.1 + 9)),.none])),((z1.1 + 3),(lst (vs.take 2) 0)),((z1.1 + 4),(lst (numV z1.2.1 vs) 0)),((z1.1 + 5),(LI [.none,(.int z4.1.i 0)]))] z4.1.N z4.1.T):=fx 4 ⟨⟨(0,0,0)⟩,fun z1=>⟨()⟩,fun z1 z2=>⟨()⟩,fun z1 z2 z3=>⟨gf0⟩,fun z1 z2 z3 z4=>trivial⟩ (by kernel_rfl)
theorem gc0 (l:Addr) (t t0 t1 t2 t3 t4:Tok):Sg b P 7 [1] [] (.builtin "list.__getitem__" ⟨[(.ref l),(.int 0 t)],[]⟩) [(l,(lst [(.str J10 t0),(.str J31 t1),(.str J15 t2),(.str J23 t3),(.str J21 t4)] 0))] N T (.fin (.ok (.done (.ret (.str J10 t0)))) [(l,(lst [(.str J10 t0),(.str J31 t1),(.str J15 t2),(.str J23 t3),(.str J21 t4)] 0))] N T):=fx 0 trivial (by kernel_rfl)
theorem gc1 (l:Addr) (t t0 t1 t2 t3 t4:Tok):Sg b P 7 [1] [] (.builtin "list.__getitem__" ⟨[(.ref l),(.int 1 t)],[]⟩) [(l,(lst [(.str J10 t0),(.str J31 t1),(.str J15 t2),(.str J23 t3),(.str J21 t4)] 0))] N T (.fin (.ok (.done (.ret (.str J31 t1)))) [(l,(lst [(.str J10 t0),(.str J31 t1),(.str J15 t2),(.str J23 t3),(.str J21 t4)] 0))] N T):=fx 0 trivial (by kernel_rfl)
theorem gc2 (l:Addr) (t t0 t1 t2 t3 t4:Tok):Sg b P 7 [1] [] (.builtin "list.__getitem__" ⟨[(.ref l),(.int 2 t)],[]⟩) [(l,(lst [(.str J10 t0),(.str J31 t1),(.str J15 t2),(.str J23 t3),(.str J21 t4)] 0))] N T (.fin (.ok (.done (.ret (.str J15 t2)))) [(l,(lst [(.str J10 t0),(.str J31 t1),(.str J15 t2),(.str J23 t3),(.str J21 t4)] 0))] N T):=fx 0 trivial (by kernel_rfl)
theorem gc3 (l:Addr) (t t0 t1 t2 t3 t4:Tok):Sg b P 7 [1] [] (.builtin "list.__getitem__" ⟨[(.ref l),(.int 3 t)],[]⟩) [(l,(lst [(.str J10 t0),(.str J31 t1),(.str J15 t2),(.str J23 t3),(.str J21 t4)] 0))] N T (.fin (.ok (.done (.ret (.str J23 t3)))) [(l,(lst [(.str J10 t0),(.str J31 t1),(.str J15 t2),(.str J23 t3),(.str J21 t4)] 0))] N T):=fx 0 trivial (by kernel_rfl)
theorem gc4 (l:Addr) (t t0 t1 t2 t3 t4:Tok):Sg b P 7 [1] [] (.builtin "list.__getitem__" ⟨[(.ref l),(.int 4 t)],[]⟩) [(l,(lst [(.str J10 t0),(.str J31 t1),(.str J15 t2),(.str J23 t3),(.str J21 t4)] 0))] N T (.fin (.ok (.done (.ret (.str J21 t4)))) [(l,(lst [(.str J10 t0),(.str J31 t1),(.str J15 t2),(.str J23 t3),(.str J21 t4)] 0))] N T):=fx 0 trivial (by kernel_rfl)
end
section
open PyProof.Rows
noncomputable def kI5 (x:Int):Nat:=(x.fmod 5).toNat
noncomputable def bareI (x:Int):Bool:=(x.fdiv 5).fmod 2 == 1
noncomputable def bxI (x:Int):Str:=bx (kI5 x)
noncomputable def wrI (x:Int):Str:=sg (wrt (kI5 x) (bareI x))
noncomputable def textF (nums:List Int):Str:=nums.foldl (fun t x=>catS t (wrI x)) (sg [])
theorem kI5_lt (x:Int):kI5 x < 5:=by
  have:=Int.fmod_lt_of_pos x (b:=5) (by decide)
  have:=Int.fmod_nonneg_of_pos x (b:=5) (by decide)
  unfold kI5; omega
theorem kI5_eq (x:Int):x.fmod 5 = ((kI5 x:Nat):Int):=by
  have:=Int.fmod_nonneg_of_pos x (b:=5) (by decide)
  unfold kI5; omega
theorem wrt_len (k:Nat) (v:Bool):(wrt k v).length ≤ 4:=by
  unfold wrt; split <;> decide
noncomputable def GFp (nums:List Int) (z:WF):Prop:=TX z.sv (nums.map bxI) ∧ z.tx = textF nums
section
variable {w:World} {b:Bool} (O:(cfg b w.params).Ok PG w)
include O
theorem conGetC {d u N T:Nat} {l:Addr} {t t0 t1 t2 t3 t4:Tok} {r:Int} {k:Nat} (hr:r = (k:Nat)) (hk:k < 5) :
    CG w b d u (.builtin "list.__getitem__" ⟨[.ref l,.int r t],[]⟩) [(l,lst [.str (sg []) t0,.str (sg [10]) t1,.str (sg [34]) t2,.str (sg [92]) t3,.str (sg [97]) t4] 0)] N T
      (fun z:Tok=>⟨.ret (.str (bx k) z),[lst [.str (sg []) t0,.str (sg [10]) t1,.str (sg [34]) t2,.str (sg [92]) t3,.str (sg [97]) t4] 0],[],N,T⟩):=by
  subst hr
  match k,hk with
  | 0,_=>exact (con_run O (gc0 b w.params N T l t t0 t1 t2 t3 t4) rfl (rest:=[]) (q:=⟨.ret (.str (bx 0) t0),[lst [.str (sg []) t0,.str (sg [10]) t1,.str (sg [34]) t2,.str (sg [92]) t3,.str (sg [97]) t4] 0],[],N,T⟩) rfl rfl rfl rfl).conv fun _=>⟨t0,rfl⟩
  | 1,_=>exact (con_run O (gc1 b w.params N T l t t0 t1 t2 t3 t4) rfl (rest:=[]) (q:=⟨.ret (.str (bx 1) t1),[lst [.str (sg []) t0,.str (sg [10]) t1,.str (sg [34]) t2,.str (sg [92]) t3,.str (sg [97]) t4] 0],[],N,T⟩) rfl rfl rfl rfl).conv fun _=>⟨t1,rfl⟩
  | 2,_=>exact (con_run O (gc2 b w.params N T l t t0 t1 t2 t3 t4) rfl (rest:=[]) (q:=⟨.ret (.str (bx 2) t2),[lst [.str (sg []) t0,.str (sg [10]) t1,.str (sg [34]) t2,.str (sg [92]) t3,.str (sg [97]) t4] 0],[],N,T⟩) rfl rfl rfl rfl).conv fun _=>⟨t2,rfl⟩
  | 3,_=>exact (con_run O (gc3 b w.params N T l t t0 t1 t2 t3 t4) rfl (rest:=[]) (q:=⟨.ret (.str (bx 3) t3),[lst [.str (sg []) t0,.str (sg [10]) t1,.str (sg [34]) t2,.str (sg [92]) t3,.str (sg [97]) t4] 0],[],N,T⟩) rfl rfl rfl rfl).conv fun _=>⟨t3,rfl⟩
  | 4,_=>exact (con_run O (gc4 b w.params N T l t t0 t1 t2 t3 t4) rfl (rest:=[]) (q:=⟨.ret (.str (bx 4) t4),[lst [.str (sg []) t0,.str (sg [10]) t1,.str (sg [34]) t2,.str (sg [92]) t3,.str (sg [97]) t4] 0],[],N,T⟩) rfl rfl rfl rfl).conv fun _=>⟨t4,rfl⟩
theorem loop_wf {aF aC sc sp io nl:Addr} {tot:Int} {ws:List Value} {e1:Nat} {A:Around} {R:Result → Shared → Prop} {S:List Addr} {h₀:Heap} {g:Array GenState} {d:Drawn} {os:OsState}
    (hz:A.handled = none) (hd:A.depth ≤ 550) (hu:A.units ≤ 5500) (nums:List Int) (hws:IX ws nums) (wx:List Str) (wt:Str)
    (hend:∀ i k tx xv bx' vs e h N T,TX vs wx → tx = wt → Rep (cfg b w.params) S h₀ [(aF,frW6 w.params sc sp k tot tx xv bx'),(sp,lst vs e),(io,fds "list_iterator" [.none,.int i 0]),(nl,lst ws e1)] h → h.objs.size = N → R (.ok .next) ⟨h,g,d,T,os⟩) :
    ∀ (rest:List Int) (ii:Nat) (i:Int) (k:Nat → Tok) (tx:Str) (xv:Int) (bx':Str) (vs:List Value) (xs:List Str) (e:Nat) (h:Heap) (N T:Nat),i = ii → nums.drop ii = rest → TX vs xs → xs++rest.map bxI = wx → rest.foldl (fun t x=>catS t (wrI x)) tx = wt → tx.length + 4 * rest.length ≤ 1000 → xs.length + rest.length ≤ 1000 →
      Rep (cfg b w.params) S h₀ [(aF,frW6 w.params sc sp k tot tx xv bx'),(sp,lst vs e),(io,fds "list_iterator" [.ref nl,.int i 0]),(nl,lst ws e1)] h → h.objs.size = N →
      codeAny (model PG w) A (fl147A aF aC io) R ⟨h,g,d,T,os⟩
  | [],ii,i,k,tx,xv,bx',vs,xs,e,h,N,T,hi,hr,hx,hw,ht,hl,hl2,D,hN=>by
    have hv:ws[ii]? = none:=by
      rw [List.drop_eq_nil_iff] at hr
      rw [List.getElem?_eq_none_iff,hws.len]; exact hr
    refine code_run O hz (wfz b w.params N T aF aC sc sp io nl k tot 0 xv 0 0 0 i true tx bx' tx tx tx 0 vs ws e e1) D hN (HHx 1 ⟨⟨by decide,conLItE O hi hv⟩,fun _=>trivial,fun _=>?_⟩)
    intro h' D' hN' hq
    refine ⟨hq,block_nil (hend i k tx xv bx' vs e h' _ _ ?_ ht (Rep.sub D') hN')⟩
    rw [← hw]; simpa using hx
  | x :: rest,ii,i,k,tx,xv,bx',vs,xs,e,h,N,T,hi,hr,hx,hw,ht,hl,hl2,D,hN=>by
    have hy:nums[ii]? = some x:=by
      have:=congrArg List.head? hr
      simpa using this
    have hr':nums.drop (ii + 1) = rest:=by
      have:=congrArg List.tail hr
      simpa using this
    obtain ⟨t10,hv⟩:=hws.get ii hy
    have hs:sizeLine = 16777216:=by decide
    have hwl:=wrt_len (kI5 x) (bareI x)
    have hcl:(catS tx (wrI x)).length = tx.length + (wrt (kI5 x) (bareI x)).length:=by simp [catS,PySem.Str.length,wrI,sg]
    simp only [List.length_cons] at hl hl2
    refine code_run O hz (wf6 b w.params N T aF aC sc sp io nl k tot x xv (x.fmod 5) (x.fdiv 5) ((x.fdiv 5).fmod 2) i (bareI x) tx bx' (bxI x) (wrI x) (catS tx (wrI x)) t10 vs ws e e1) D hN
      (HHx 9 ⟨⟨by decide,conLIt hi hv⟩,fun _=>⟨by decide,conIMod (by decide) rfl⟩,fun _ _=>⟨by decide,conGetC O (kI5_eq x) (kI5_lt x)⟩,fun _ _ z3=>⟨by decide,conAppend (by rw [hx.len]; omega)⟩,fun _ _ z3 _=>⟨by decide,conIFd (.inl rfl) rfl⟩,fun _ _ z3 _ _=>⟨by decide,conIMod (by decide) rfl⟩,fun _ _ z3 _ _ _=>⟨by decide,conIEq rfl⟩,fun _ _ z3 _ _ _ _=>⟨by decide,(con_wr O (kI5 x) (kI5_lt x) (bareI x)).mono (Mine.bd hd rfl) (Mine.bd hu rfl)⟩,fun _ _ z3 _ _ _ _ z8=>⟨by decide,conAddS rfl (by omega)⟩,fun _ _ _ _ _ _ _ _ _=>trivial,fun _ _ z3 _ _ _ _ z8 z9=>?_⟩)
    intro h' D' hN' hq
    refine ⟨hq,?_⟩
    refine loop_wf hz hd hu nums hws wx wt hend rest (ii + 1) (i + 1) (fun j=>match j with | 23=>z9.1.1 | 24=>t10 | 25=>z3 | j=>k j) (catS tx (wrI x)) x (bxI x) _ (xs++[bxI x]) _ h' _ _ (by rw [hi]; rfl) hr' hx.snoc ?_ ht (by omega) (by simp; omega) (Rep.sub D') hN'
    rw [← hw]; simp
theorem con_wf {aF aC sc sp io nl:Addr} {tot:Int} {ws:List Value} {nums:List Int} {e1 N T:Nat} {k0 k1 k2 k3 k21 k23:Tok} (hws:IX ws nums) (h0:nums ≠ []) (hl:nums.length ≤ 100) :
    CG w b 550 5500 (fl147A aF aC io) [(aF,frm w.params [((sg [115,99,114,105,112,116]),k0,(.ref sc)),((sg [116,111,116,97,108]),k1,(.int tot k21)),((sg [115,116,114,105,112]),k2,(.ref sp)),((sg [116,101,120,116]),k3,(.str (sg []) k23))] 4),(sp,lst [] 0),(io,fds "list_iterator" [.ref nl,.int 0 0]),(nl,lst ws e1)] N T
      (fun z:{z:WF // GFp nums z}=>⟨.next,[frW6 w.params sc sp z.1.k tot z.1.tx z.1.xv z.1.bx,lst z.1.sv z.1.se,fds "list_iterator" [.none,.int z.1.i 0],lst ws e1],[],z.1.N,z.1.T⟩):=by
  refine coni fun A h g dr os G hz hd hu D hN hG=>?_
  cases nums with
  | nil=>exact absurd rfl h0
  | cons x rest=>
    obtain ⟨t10,hv⟩:=hws.get 0 (n:=x) rfl
    have hs:sizeLine = 16777216:=by decide
    have hwl:=wrt_len (kI5 x) (bareI x)
    have hcl:(catS (sg []) (wrI x)).length = (wrt (kI5 x) (bareI x)).length:=by simp [catS,PySem.Str.length,wrI,sg]
    simp only [List.length_cons] at hl
    refine hG ?_
    refine code_run O hz (wf4 b w.params N T aF aC sc sp io nl (fun j=>match j with | 0=>k0 | 1=>k1 | 2=>k2 | 3=>k3 | 21=>k21 | 23=>k23 | _=>0) tot x 0 (x.fmod 5) (x.fdiv 5) ((x.fdiv 5).fmod 2) 0 (bareI x) (sg []) (sg []) (bxI x) (wrI x) (catS (sg []) (wrI x)) t10 [] ws 0 e1) D hN
      (HHx 9 ⟨⟨by decide,conLIt (i:=0) rfl hv⟩,fun _=>⟨by decide,conIMod (by decide) rfl⟩,fun _ _=>⟨by decide,conGetC O (kI5_eq x) (kI5_lt x)⟩,fun _ _ z3=>⟨by decide,conAppend (by decide)⟩,fun _ _ z3 _=>⟨by decide,conIFd (.inl rfl) rfl⟩,fun _ _ z3 _ _=>⟨by decide,conIMod (by decide) rfl⟩,fun _ _ z3 _ _ _=>⟨by decide,conIEq rfl⟩,fun _ _ z3 _ _ _ _=>⟨by decide,(con_wr O (kI5 x) (kI5_lt x) (bareI x)).mono (Mine.bd hd rfl) (Mine.bd hu rfl)⟩,fun _ _ z3 _ _ _ _ z8=>⟨by decide,conAddS rfl (by omega)⟩,fun _ _ _ _ _ _ _ _ _=>trivial,fun _ _ z3 _ _ _ _ z8 z9=>?_⟩)
    intro h' D' hN' hq
    refine ⟨hq,?_⟩
    refine loop_wf O hz hd hu (x :: rest) hws ((x :: rest).map bxI) (textF (x :: rest)) ?_ rest 1 (0 + 1) (fun j=>match j with | 0=>k0 | 1=>k1 | 2=>k2 | 3=>k3 | 4=>T | 5=>T + 8 | 21=>k21 | 23=>z9.1.1 | 24=>t10 | 25=>z3 | _=>0) (catS (sg []) (wrI x)) x (bxI x) _ [bxI x] _ h' _ _ rfl rfl (TX.snoc (xs:=[]) ⟨[],rfl,rfl⟩) rfl rfl (by omega) (by simp; omega) (Rep.sub D') hN'
    intro i k tx xv bx' vs e h2 N2 T2 hx2 ht2 D2 hN2
    exact ⟨⟨⟨k,tx,xv,bx',vs,e,i,N2,T2⟩,hx2,ht2⟩,rfl,aft_plain (q:=⟨.next,[frW6 w.params sc sp k tot tx xv bx',lst vs e,fds "list_iterator" [.none,.int i 0],lst ws e1],[],N2,T2⟩) D2 rfl hN2 rfl⟩
end
end
end Mine
end
section
namespace Mine
section
variable (b:Bool) (P:Params) (N T:Nat)
theorem wa0 (G:LZ → Prop) (g0:{z:LZ // G z}) (X:LX) (aF aC it sp acc lo:Addr) (n i m j:Int) (S B vs ws:List Value) (x0 x1:Str) (tn t10 k0 k1:Tok) (e e1 e2 e3:Nat):Sg b P 44 [11,11,14,14,10,1,0,0,0,1,0,0,0,1,0,0,0,0,1,2,0,13] [0,1,1,0,1] (cl147 ceA aF aC lo it acc) (lexL P X n tn S e B e1++[(aC,(cel (some (.ref X.a)))),(it,(LI [(.ref sp),(.int i 0)])),(sp,(lst ws e3)),(acc,(lst vs e2)),(lo,(dob #[] 0))]) N T (.ask Unit ⟨(.builtin "list_iterator.__next__" ⟨[(.ref it)],[]⟩),0,0,[(it,(LI [(.ref sp),(.int i 0)])),(sp,(lst ws e3))],N,T⟩ [10,11] (fun z1=>⟨(.ret (.str x1 t10)),[(LI [(.ref sp),(.int (i + 1) 0)]),(lst ws e3)],[],N,T⟩) fun z1=>.ask {z:LZ // G z} ⟨(.call (.ref 95) ⟨[(.ref X.a)],[]⟩),0,0,(lexL P X n tn S e B e1),N,(T + 1)⟩ [0,1,2,3,4,5,6,7,8] (fun z2=>⟨(.ret (.str z2.1.x z2.1.t)),(lexO P X z2.1.n z2.1.tn z2.1.S z2.1.e z2.1.B z2.1.e1),[],z2.1.N,z2.1.T⟩) fun z2=>.ask Unit ⟨(.builtin "list.append" ⟨[(.ref acc),(.str z2.1.x z2.1.t)],[]⟩),0,0,[(acc,(lst vs e2))],z2.1.N,z2.1.T⟩ [12] (fun z3=>⟨(.ret .none),[(lst (sn vs (.str z2.1.x z2.1.t)) (e2 + 1))],[],z2.1.N,z2.1.T⟩) fun z3=>.fin (.ok (.again (cl147 ceA aF aC lo it acc))) (lexL P X z2.1.n z2.1.tn z2.1.S z2.1.e z2.1.B z2.1.e1++[(aC,(cel (some (.ref X.a)))),(it,(LI [(.ref sp),(.int (i + 1) 0)])),(sp,(lst ws e3)),(acc,(lst (sn vs (.str z2.1.x z2.1.t)) (e2 + 1))),(lo,(dct P [(J14,T,(.str x1 t10))] 1))]) z2.1.N z2.1.T):=fx 3 ⟨⟨()⟩,fun z1=>⟨g0⟩,fun z1 z2=>⟨()⟩,fun z1 z2 z3=>trivial⟩ (by kernel_rfl)
theorem wa1 (G:LZ → Prop) (g0:{z:LZ // G z}) (X:LX) (aF aC it sp acc lo:Addr) (n i m j:Int) (S B vs ws:List Value) (x0 x1:Str) (tn t10 k0 k1:Tok) (e e1 e2 e3:Nat):Sg b P 44 [11,11,14,14,10,1,0,0,0,1,0,0,0,1,0,0,0,0,1,2,0,13] [0,1,1,0,1] (cl147 ceA aF aC lo it acc) (lexL P X n tn S e B e1++[(aC,(cel (some (.ref X.a)))),(it,(LI [(.ref sp),(.int i 0)])),(sp,(lst ws e3)),(acc,(lst vs e2)),(lo,(dct P [(J14,k0,(.str x0 k1))] 1))]) N T (.ask Unit ⟨(.builtin "list_iterator.__next__" ⟨[(.ref it)],[]⟩),0,0,[(it,(LI [(.ref sp),(.int i 0)])),(sp,(lst ws e3))],N,T⟩ [10,11] (fun z1=>⟨(.ret (.str x1 t10)),[(LI [(.ref sp),(.int (i + 1) 0)]),(lst ws e3)],[],N,T⟩) fun z1=>.ask {z:LZ // G z} ⟨(.call (.ref 95) ⟨[(.ref X.a)],[]⟩),0,0,(lexL P X n tn S e B e1),N,(T + 1)⟩ [0,1,2,3,4,5,6,7,8] (fun z2=>⟨(.ret (.str z2.1.x z2.1.t)),(lexO P X z2.1.n z2.1.tn z2.1.S z2.1.e z2.1.B z2.1.e1),[],z2.1.N,z2.1.T⟩) fun z2=>.ask Unit ⟨(.builtin "list.append" ⟨[(.ref acc),(.str z2.1.x z2.1.t)],[]⟩),0,0,[(acc,(lst vs e2))],z2.1.N,z2.1.T⟩ [12] (fun z3=>⟨(.ret .none),[(lst (sn vs (.str z2.1.x z2.1.t)) (e2 + 1))],[],z2.1.N,z2.1.T⟩) fun z3=>.fin (.ok (.again (cl147 ceA aF aC lo it acc))) (lexL P X z2.1.n z2.1.tn z2.1.S z2.1.e z2.1.B z2.1.e1++[(aC,(cel (some (.ref X.a)))),(it,(LI [(.ref sp),(.int (i + 1) 0)])),(sp,(lst ws e3)),(acc,(lst (sn vs (.str z2.1.x z2.1.t)) (e2 + 1))),(lo,(dct P [(J14,k0,(.str x1 t10))] 1))]) z2.1.N z2.1.T):=fx 3 ⟨⟨()⟩,fun z1=>⟨g0⟩,fun z1 z2=>⟨()⟩,fun z1 z2 z3=>trivial⟩ (by kernel_rfl)
theorem waz (G:LZ → Prop) (g0:{z:LZ // G z}) (X:LX) (aF aC it sp acc lo:Addr) (n i m j:Int) (S B vs ws:List Value) (x0 x1:Str) (tn t10 k0 k1:Tok) (e e1 e2 e3:Nat):Sg b P 12 [11,11,16] [0,1] (cl147 ceA aF aC lo it acc) (lexL P X n tn S e B e1++[(aC,(cel (some (.ref X.a)))),(it,(LI [(.ref sp),(.int i 0)])),(sp,(lst ws e3)),(acc,(lst vs e2)),(lo,(dct P [(J14,k0,(.str x0 k1))] 1))]) N T (.ask Unit ⟨(.builtin "list_iterator.__next__" ⟨[(.ref it)],[]⟩),0,0,[(it,(LI [(.ref sp),(.int i 0)])),(sp,(lst ws e3))],N,T⟩ [10,11] (fun z1=>⟨(.err (.ref (N + 1))),[(LI [.none,(.int i 0)]),(lst ws e3)],[(N,(tup [] 0)),((N + 1),(fds "StopIteration" [(.ref N),.none,.none,.none,(.bool false),.none]))],(N + 2),T⟩) fun z1=>.fin (.ok (.done .next)) (lexL P X n tn S e B e1++[(aC,(cel (some (.ref X.a)))),(it,(LI [.none,(.int i 0)])),(sp,(lst ws e3)),(acc,(lst vs e2)),(lo,(dct P [(J14,k0,(.str x0 k1))] 1)),(N,(tup [] 0)),((N + 1),(fds "StopIteration" [(.ref N),.none,.none,.none,(.bool false),.none]))]) (N + 2) T):=fx 1 ⟨⟨()⟩,fun z1=>trivial⟩ (by kernel_rfl)
theorem wb0 (G:LZ → Prop) (g0:{z:LZ // G z}) (X:LX) (aF aC it sp acc lo:Addr) (n i m j:Int) (S B vs ws:List Value) (x0 x1:Str) (tn t10 k0 k1:Tok) (e e1 e2 e3:Nat):Sg b P 44 [11,11,14,14,10,1,0,0,0,1,0,0,0,1,0,0,0,0,1,2,0,13] [0,1,1,0,1] (cl147 ceB aF aC lo it acc) (lexL P X n tn S e B e1++[(aC,(cel (some (.ref X.a)))),(it,(RI [(.int i 0),(.int m 0),(.int 1 0)])),(sp,(lst ws e3)),(acc,(lst vs e2)),(lo,(dob #[] 0))]) N T (.ask Unit ⟨(.builtin "range_iterator.__next__" ⟨[(.ref it)],[]⟩),0,0,[(it,(RI [(.int i 0),(.int m 0),(.int 1 0)]))],N,T⟩ [10] (fun z1=>⟨(.ret (.int i T)),[(RI [(.int (i + 1) 0),(.int (m - 1) 0),(.int 1 0)])],[],N,(T + 1)⟩) fun z1=>.ask {z:LZ // G z} ⟨(.call (.ref 95) ⟨[(.ref X.a)],[]⟩),0,0,(lexL P X n tn S e B e1),N,(T + 2)⟩ [0,1,2,3,4,5,6,7,8] (fun z2=>⟨(.ret (.str z2.1.x z2.1.t)),(lexO P X z2.1.n z2.1.tn z2.1.S z2.1.e z2.1.B z2.1.e1),[],z2.1.N,z2.1.T⟩) fun z2=>.ask Unit ⟨(.builtin "list.append" ⟨[(.ref acc),(.str z2.1.x z2.1.t)],[]⟩),0,0,[(acc,(lst vs e2))],z2.1.N,z2.1.T⟩ [12] (fun z3=>⟨(.ret .none),[(lst (sn vs (.str z2.1.x z2.1.t)) (e2 + 1))],[],z2.1.N,z2.1.T⟩) fun z3=>.fin (.ok (.again (cl147 ceB aF aC lo it acc))) (lexL P X z2.1.n z2.1.tn z2.1.S z2.1.e z2.1.B z2.1.e1++[(aC,(cel (some (.ref X.a)))),(it,(RI [(.int (i + 1) 0),(.int (m - 1) 0),(.int 1 0)])),(sp,(lst ws e3)),(acc,(lst (sn vs (.str z2.1.x z2.1.t)) (e2 + 1))),(lo,(dct P [(J12,(T + 1),(.int i T))] 1))]) z2.1.N z2.1.T):=fx 3 ⟨⟨()⟩,fun z1=>⟨g0⟩,fun z1 z2=>⟨()⟩,fun z1 z2 z3=>trivial⟩ (by kernel_rfl)
theorem wb1 (G:LZ → Prop) (g0:{z:LZ // G z}) (X:LX) (aF aC it sp acc lo:Addr) (n i m j:Int) (S B vs ws:List Value) (x0 x1:Str) (tn t10 k0 k1:Tok) (e e1 e2 e3:Nat):Sg b P 44 [11,11,14,14,10,1,0,0,0,1,0,0,0,1,0,0,0,0,1,2,0,13] [0,1,1,0,1] (cl147 ceB aF aC lo it acc) (lexL P X n tn S e B e1++[(aC,(cel (some (.ref X.a)))),(it,(RI [(.int i 0),(.int m 0),(.int 1 0)])),(sp,(lst ws e3)),(acc,(lst vs e2)),(lo,(dct P [(J12,k0,(.int j k1))] 1))]) N T (.ask Unit ⟨(.builtin "range_iterator.__next__" ⟨[(.ref it)],[]⟩),0,0,[(it,(RI [(.int i 0),(.int m 0),(.int 1 0)]))],N,T⟩ [10] (fun z1=>⟨(.ret (.int i T)),[(RI [(.int (i + 1) 0),(.int (m - 1) 0),(.int 1 0)])],[],N,(T + 1)⟩) fun z1=>.ask {z:LZ // G z} ⟨(.call (.ref 95) ⟨[(.ref X.a)],[]⟩),0,0,(lexL P X n tn S e B e1),N,(T + 2)⟩ [0,1,2,3,4,5,6,7,8] (fun z2=>⟨(.ret (.str z2.1.x z2.1.t)),(lexO P X z2.1.n z2.1.tn z2.1.S z2.1.e z2.1.B z2.1.e1),[],z2.1.N,z2.1.T⟩) fun z2=>.ask Unit ⟨(.builtin "list.append" ⟨[(.ref acc),(.str z2.1.x z2.1.t)],[]⟩),0,0,[(acc,(lst vs e2))],z2.1.N,z2.1.T⟩ [12] (fun z3=>⟨(.ret .none),[(lst (sn vs (.str z2.1.x z2.1.t)) (e2 + 1))],[],z2.1.N,z2.1.T⟩) fun z3=>.fin (.ok (.again (cl147 ceB aF aC lo it acc))) (lexL P X z2.1.n z2.1.tn z2.1.S z2.1.e z2.1.B z2.1.e1++[(aC,(cel (some (.ref X.a)))),(it,(RI [(.int (i + 1) 0),(.int (m - 1) 0),(.int 1 0)])),(sp,(lst ws e3)),(acc,(lst (sn vs (.str z2.1.x z2.1.t)) (e2 + 1))),(lo,(dct P [(J12,k0,(.int i T))] 1))]) z2.1.N z2.1.T):=fx 3 ⟨⟨()⟩,fun z1=>⟨g0⟩,fun z1 z2=>⟨()⟩,fun z1 z2 z3=>trivial⟩ (by kernel_rfl)
theorem wbz (G:LZ → Prop) (g0:{z:LZ // G z}) (X:LX) (aF aC it sp acc lo:Addr) (n i m j:Int) (S B vs ws:List Value) (x0 x1:Str) (tn t10 k0 k1:Tok) (e e1 e2 e3:Nat):Sg b P 20 [11,11,11,11,11,16] [0,0] (cl147 ceB aF aC lo it acc) (lexL P X n tn S e B e1++[(aC,(cel (some (.ref X.a)))),(it,(RI [(.int i 0),(.int 0 0),(.int 1 0)])),(sp,(lst ws e3)),(acc,(lst vs e2)),(lo,(dct P [(J12,k0,(.int j k1))] 1))]) N T (.fin (.ok (.done .next)) (lexL P X n tn S e B e1++[(aC,(cel (some (.ref X.a)))),(it,(RI [(.int i 0),(.int 0 0),(.int 1 0)])),(sp,(lst ws e3)),(acc,(lst vs e2)),(lo,(dct P [(J12,k0,(.int j k1))] 1)),(N,(tup [] 0)),((N + 1),(fds "StopIteration" [(.ref N),.none,.none,.none,(.bool false),.none]))]) (N + 2) T):=fx 0 trivial (by kernel_rfl)
end
section
open PyProof.Rows
structure CW where
  q:LS
  i:Int
  j:Int
  vs:List Value
  ev:Nat
  kk:Tok
  x:Str
  t:Tok
  N:Nat
  T:Nat
noncomputable def GW (F:LS → Prop) (words:List Str) (z:CW):Prop:=F z.q ∧ TX z.vs words
section
variable {w:World} {b:Bool} (O:(cfg b w.params).Ok PG w)
include O
theorem loop_cA {X:LX} {F:LS → Prop} {aF aC it sp acc lo:Addr} {ws:List Value} {e3:Nat} {A:Around} {R:Result → Shared → Prop} {S':List Addr} {h₀:Heap} {g:Array GenState} {d:Drawn} {os:OsState}
    (hz:A.handled = none) (hd:A.depth ≤ 550) (hu:A.units ≤ 5500) (us:List Str) (hus:TX ws us) (want:List Str)
    (hend:∀ (q:LS) (i j:Int) (x0:Str) (k0 k1:Tok) (vs:List Value) (e2:Nat) (h:Heap) (N T:Nat),F q → TX vs want → Rep (cfg b w.params) S' h₀ (lexL w.params X q.n q.tn q.S q.e q.B q.e1++[(aC,cel (some (.ref X.a))),(it,fds "list_iterator" [.none,.int i 0]),(sp,lst ws e3),(acc,lst vs e2),(lo,dct w.params [(sg [98,111,120],k0,.str x0 k1)] 1)]) h → h.objs.size = N → R (.ok .next) ⟨h,g,d,T,os⟩) :
    ∀ (rest:List Str) (q:LS) (ii:Nat) (i j:Int) (x0:Str) (k0 k1:Tok) (vs:List Value) (xs:List Str) (e2:Nat) (h:Heap) (N T:Nat),i = ii → us.length = ii + rest.length → Yields w b X F rest q → TX vs xs → xs++rest = want → xs.length + rest.length ≤ 100 →
      Rep (cfg b w.params) S' h₀ (lexL w.params X q.n q.tn q.S q.e q.B q.e1++[(aC,cel (some (.ref X.a))),(it,fds "list_iterator" [.ref sp,.int i 0]),(sp,lst ws e3),(acc,lst vs e2),(lo,dct w.params [(sg [98,111,120],k0,.str x0 k1)] 1)]) h → h.objs.size = N → codeAny (model PG w) A (cl147 ceA aF aC lo it acc) R ⟨h,g,d,T,os⟩
  | [],q,ii,i,j,x0,k0,k1,vs,xs,e2,h,N,T,hi,hlen,hy,hx,hw,hl,D,hN=>by
    have hv:ws[ii]? = none:=by
      rw [List.getElem?_eq_none_iff,hus.len,hlen]; simp
    refine code_run O hz (waz b w.params N T (fun _=>True) ⟨⟨0,0,0,0,[],0,[],0,x0,0⟩,trivial⟩ X aF aC it sp acc lo q.n i 0 j q.S q.B vs ws x0 x0 q.tn 0 k0 k1 q.e q.e1 e2 e3) D hN (HHx 1 ⟨⟨by decide,conLItE O hi hv⟩,fun _=>trivial,fun _=>?_⟩)
    intro h' D' hN'
    refine hend q i j x0 k0 k1 vs e2 h' _ _ hy ?_ (Rep.sub D') hN'
    rw [← hw]; simpa using hx
  | y :: rest,q,ii,i,j,x0,k0,k1,vs,xs,e2,h,N,T,hi,hlen,hy,hx,hw,hl,D,hN=>by
    obtain ⟨ps,hp1,hp2⟩:=hus
    have hlt:ii < ps.length:=by
      have:=congrArg List.length hp2
      simp at this hlen; omega
    have hv:ws[ii]? = some (.str ps[ii].1 ps[ii].2):=by rw [hp1,List.getElem?_map,List.getElem?_eq_getElem hlt]; rfl
    obtain ⟨G,⟨g0⟩,hc,hG⟩:=hy N (T + 1)
    have hs:sizeLine = 16777216:=by decide
    refine code_run O hz (wa1 b w.params N T G g0 X aF aC it sp acc lo q.n i 0 0 q.S q.B vs ws x0 ps[ii].1 q.tn ps[ii].2 k0 k1 q.e q.e1 e2 e3) D hN
      (HHx 3 ⟨⟨by decide,conLIt hi hv⟩,fun _=>⟨by decide,hc.mono (Mine.bd hd rfl) (Mine.bd hu rfl)⟩,fun _ z2=>⟨by decide,conAppend (by rw [hx.len]; omega)⟩,fun _ _ _=>trivial,fun _ z2 _=>?_⟩)
    intro h' D' hN' hq
    refine ⟨hq,?_⟩
    have hz2:=hG z2.1 z2.2
    refine loop_cA hz hd hu us ⟨ps,hp1,hp2⟩ want hend rest z2.1.ls (ii + 1) (i + 1) 0 ps[ii].1 k0 ps[ii].2 _ (xs++[y]) _ h' _ _ (by rw [hi]; rfl) (by simp at hlen ⊢; omega) hz2.2 ?_ ?_ (by simp at hl ⊢; omega) D' hN'
    · rw [← hz2.1]; exact hx.snoc
    · rw [← hw]; simp
theorem con_cA {X:LX} {F:LS → Prop} {aF aC it sp acc lo:Addr} {q:LS} {words:List Str} {ws:List Value} {e3 N T:Nat} (us:List Str) (hus:TX ws us) (hlen:us.length = words.length) (h0:words ≠ []) (hl:words.length ≤ 100) (hy:Yields w b X F words q) :
    CG w b 549 5490 (cs147 ceA aF aC lo it acc) (lexL w.params X q.n q.tn q.S q.e q.B q.e1++[(aC,cel (some (.ref X.a))),(it,fds "list_iterator" [.ref sp,.int 0 0]),(sp,lst ws e3),(acc,lst [] 0),(lo,dob #[] 0)]) N T
      (fun z:{z:CW // GW F words z}=>⟨.next,lexO w.params X z.1.q.n z.1.q.tn z.1.q.S z.1.q.e z.1.q.B z.1.q.e1++[cel (some (.ref X.a)),fds "list_iterator" [.none,.int z.1.i 0],lst ws e3,lst z.1.vs z.1.ev,dct w.params [(sg [98,111,120],z.1.kk,.str z.1.x z.1.t)] 1],[],z.1.N,z.1.T⟩):=by
  refine coni fun A h g dr os G0 hz hd hu D hN hG0=>?_
  have hG0:=fun z=>hG0 (comp_start (by kernel_rfl) (by kernel_rfl) (by kernel_rfl) (fun A' Q E q=>wpAny_pyIter_listiter (it:=it) (l:=sp) (i:=0) ⟨_,D.has (it,_) (List.mem_append_right _ (.tail _ (.head _))),rfl,rfl⟩ q) z)
  cases words with
  | nil=>exact absurd rfl h0
  | cons y rest=>
    obtain ⟨G,⟨g0⟩,hc,hG⟩:=hy N (T + 1)
    have hus0:=hus
    obtain ⟨ps,hp1,hp2⟩:=hus
    have hlt:0 < ps.length:=by
      have:=congrArg List.length hp2
      simp at this hlen; omega
    have hv:ws[0]? = some (.str ps[0].1 ps[0].2):=by rw [hp1,List.getElem?_map,List.getElem?_eq_getElem hlt]; rfl
    refine hG0 ?_
    refine code_run O hz (wa0 b w.params N T G g0 X aF aC it sp acc lo q.n 0 0 0 q.S q.B [] ws y ps[0].1 q.tn ps[0].2 0 0 q.e q.e1 0 e3) D hN
      (HHx 3 ⟨⟨by decide,conLIt (i:=0) rfl hv⟩,fun _=>⟨by decide,hc.mono (Mine.bd hd rfl) (Mine.bd hu rfl)⟩,fun _ z2=>⟨by decide,conAppend (by decide)⟩,fun _ _ _=>trivial,fun _ z2 _=>?_⟩)
    intro h' D' hN' hq
    refine ⟨hq,?_⟩
    have hz2:=hG z2.1 z2.2
    refine loop_cA O hz (Nat.le_trans hd (by decide)) (Nat.le_trans hu (by decide)) us hus0 (y :: rest) ?_ rest z2.1.ls 1 (0 + 1) 0 ps[0].1 _ ps[0].2 _ [y] _ h' _ _ rfl (by simp at hlen; omega) hz2.2 ?_ rfl (by simp at hl ⊢; omega) D' hN'
    · intro q' i' j' x0' k0' k1' vs' e2' h2 N2 T2 hF hx2 D2 hN2
      exact ⟨⟨⟨q',i',j',vs',e2',k0',x0',k1',N2,T2⟩,hF,hx2⟩,rfl,aft_plain (q:=⟨.next,lexO w.params X q'.n q'.tn q'.S q'.e q'.B q'.e1++[cel (some (.ref X.a)),fds "list_iterator" [.none,.int i' 0],lst ws e3,lst vs' e2',dct w.params [(sg [98,111,120],k0',.str x0' k1')] 1],[],N2,T2⟩) D2 rfl hN2 rfl⟩
    · rw [← hz2.1]; exact TX.snoc (xs:=[]) ⟨[],rfl,rfl⟩
theorem loop_cB {X:LX} {F:LS → Prop} {aF aC it sp acc lo:Addr} {ws:List Value} {e3:Nat} {A:Around} {R:Result → Shared → Prop} {S':List Addr} {h₀:Heap} {g:Array GenState} {d:Drawn} {os:OsState}
    (hz:A.handled = none) (hd:A.depth ≤ 550) (hu:A.units ≤ 5500)  (want:List Str)
    (hend:∀ (q:LS) (i j:Int) (x0:Str) (k0 k1:Tok) (vs:List Value) (e2:Nat) (h:Heap) (N T:Nat),F q → TX vs want → Rep (cfg b w.params) S' h₀ (lexL w.params X q.n q.tn q.S q.e q.B q.e1++[(aC,cel (some (.ref X.a))),(it,fds "range_iterator" [.int i 0,.int 0 0,.int 1 0]),(sp,lst ws e3),(acc,lst vs e2),(lo,dct w.params [(sg [116,117,114,110],k0,.int j k1)] 1)]) h → h.objs.size = N → R (.ok .next) ⟨h,g,d,T,os⟩) :
    ∀ (rest:List Str) (q:LS) (m:Int) (i j:Int) (x0:Str) (k0 k1:Tok) (vs:List Value) (xs:List Str) (e2:Nat) (h:Heap) (N T:Nat),m = rest.length → Yields w b X F rest q → TX vs xs → xs++rest = want → xs.length + rest.length ≤ 100 →
      Rep (cfg b w.params) S' h₀ (lexL w.params X q.n q.tn q.S q.e q.B q.e1++[(aC,cel (some (.ref X.a))),(it,fds "range_iterator" [.int i 0,.int m 0,.int 1 0]),(sp,lst ws e3),(acc,lst vs e2),(lo,dct w.params [(sg [116,117,114,110],k0,.int j k1)] 1)]) h → h.objs.size = N → codeAny (model PG w) A (cl147 ceB aF aC lo it acc) R ⟨h,g,d,T,os⟩
  | [],q,m,i,j,x0,k0,k1,vs,xs,e2,h,N,T,hm,hy,hx,hw,hl,D,hN=>by
    have hm0:m = 0:=by simpa using hm
    subst hm0
    refine code_run O hz (wbz b w.params N T (fun _=>True) ⟨⟨0,0,0,0,[],0,[],0,x0,0⟩,trivial⟩ X aF aC it sp acc lo q.n i 0 j q.S q.B vs ws x0 x0 q.tn 0 k0 k1 q.e q.e1 e2 e3) D hN ?_
    intro h' D' hN'
    refine hend q i j x0 k0 k1 vs e2 h' _ _ hy ?_ (Rep.sub D') hN'
    rw [← hw]; simpa using hx
  | y :: rest,q,m,i,j,x0,k0,k1,vs,xs,e2,h,N,T,hm,hy,hx,hw,hl,D,hN=>by
    have hm0:¬ m ≤ 0:=by rw [hm]; simp only [List.length_cons]; omega
    have hm1:m - 1 = ((rest.length:Nat):Int):=by rw [hm]; simp
    obtain ⟨G,⟨g0⟩,hc,hG⟩:=hy N (T + 2)
    have hs:sizeLine = 16777216:=by decide
    refine code_run O hz (wb1 b w.params N T G g0 X aF aC it sp acc lo q.n i m j q.S q.B vs ws x0 x0 q.tn 0 k0 k1 q.e q.e1 e2 e3) D hN
      (HHx 3 ⟨⟨by decide,conRng hm0⟩,fun _=>⟨by decide,hc.mono (Mine.bd hd rfl) (Mine.bd hu rfl)⟩,fun _ z2=>⟨by decide,conAppend (by rw [hx.len]; omega)⟩,fun _ _ _=>trivial,fun _ z2 _=>?_⟩)
    intro h' D' hN' hq
    refine ⟨hq,?_⟩
    have hz2:=hG z2.1 z2.2
    refine loop_cB hz hd hu want hend rest z2.1.ls (m - 1) (i + 1) i x0 k0 T _ (xs++[y]) _ h' _ _ hm1 hz2.2 ?_ ?_ (by simp at hl ⊢; omega) D' hN'
    · rw [← hz2.1]; exact hx.snoc
    · rw [← hw]; simp
theorem con_cB {X:LX} {F:LS → Prop} {aF aC it sp acc lo:Addr} {q:LS} {words:List Str} {ws:List Value} {e3 N T:Nat} {m:Int} (hm:m = words.length) (h0:words ≠ []) (hl:words.length ≤ 100) (hy:Yields w b X F words q) :
    CG w b 549 5490 (cs147 ceB aF aC lo it acc) (lexL w.params X q.n q.tn q.S q.e q.B q.e1++[(aC,cel (some (.ref X.a))),(it,fds "range_iterator" [.int 0 0,.int m 0,.int 1 0]),(sp,lst ws e3),(acc,lst [] 0),(lo,dob #[] 0)]) N T
      (fun z:{z:CW // GW F words z}=>⟨.next,lexO w.params X z.1.q.n z.1.q.tn z.1.q.S z.1.q.e z.1.q.B z.1.q.e1++[cel (some (.ref X.a)),fds "range_iterator" [.int z.1.i 0,.int 0 0,.int 1 0],lst ws e3,lst z.1.vs z.1.ev,dct w.params [(sg [116,117,114,110],z.1.kk,.int z.1.j z.1.t)] 1],[],z.1.N,z.1.T⟩):=by
  refine coni fun A h g dr os G0 hz hd hu D hN hG0=>?_
  have hG0:=fun z=>hG0 (comp_start (by kernel_rfl) (by kernel_rfl) (by kernel_rfl) (fun A' Q E q=>wpAny_pyIter_rangeiter (it:=it) (x:=0) (left:=m) (step:=1) (show _ = some _ from D.has (it,_) (List.mem_append_right _ (.tail _ (.head _)))) q) z)
  cases words with
  | nil=>exact absurd rfl h0
  | cons y rest=>
    obtain ⟨G,⟨g0⟩,hc,hG⟩:=hy N (T + 2)
    have hm0:¬ m ≤ 0:=by rw [hm]; simp only [List.length_cons]; omega
    have hm1:m - 1 = ((rest.length:Nat):Int):=by rw [hm]; simp
    refine hG0 ?_
    refine code_run O hz (wb0 b w.params N T G g0 X aF aC it sp acc lo q.n 0 m 0 q.S q.B [] ws y y q.tn 0 0 0 q.e q.e1 0 e3) D hN
      (HHx 3 ⟨⟨by decide,conRng hm0⟩,fun _=>⟨by decide,hc.mono (Mine.bd hd rfl) (Mine.bd hu rfl)⟩,fun _ z2=>⟨by decide,conAppend (by decide)⟩,fun _ _ _=>trivial,fun _ z2 _=>?_⟩)
    intro h' D' hN' hq
    refine ⟨hq,?_⟩
    have hz2:=hG z2.1 z2.2
    refine loop_cB O hz (Nat.le_trans hd (by decide)) (Nat.le_trans hu (by decide)) (y :: rest) ?_ rest z2.1.ls (m - 1) (0 + 1) 0 y _ T _ [y] _ h' _ _ hm1 hz2.2 ?_ rfl (by simp at hl ⊢; omega) D' hN'
    · intro q' i' j' x0' k0' k1' vs' e2' h2 N2 T2 hF hx2 D2 hN2
      exact ⟨⟨⟨q',i',j',vs',e2',k0',x0',k1',N2,T2⟩,hF,hx2⟩,rfl,aft_plain (q:=⟨.next,lexO w.params X q'.n q'.tn q'.S q'.e q'.B q'.e1++[cel (some (.ref X.a)),fds "range_iterator" [.int i' 0,.int 0 0,.int 1 0],lst ws e3,lst vs' e2',dct w.params [(sg [116,117,114,110],k0',.int j' k1')] 1],[],N2,T2⟩) D2 rfl hN2 rfl⟩
    · rw [← hz2.1]; exact TX.snoc (xs:=[]) ⟨[],rfl,rfl⟩
end
end
end Mine
end
section
namespace Mine
section
variable {prog:Program} {w:World} {C:Cf}
noncomputable def SCon (prog:Program) (w:World) (C:Cf) (d u:Nat) (c:Code) (t:Sem Flow) (rd:Led) (N T:Nat) {Z:Type} (o:Z → Pst):Prop:=
  ∀ (A:Around) (s:Shared),A.handled = none → A.depth ≤ d → A.units ≤ u → TopIn C s.heap → HasL s.heap rd → (rd.map (·.1)).Nodup → (∀ p ∈ rd,C.top p.1 = none) →
    s.heap.objs.size = N → s.toks = T → wpOwn (model prog w) A c t (fun f s'=>∃ z,(.ok f:Result) = (o z).f.res ∧ Aft s s' rd (o z)) (fun _ _=>False) s
theorem sconi {prog:Program} {w:World} {C:Cf} {d u:Nat} {c:Code} {t:Sem Flow} {rd:Led} {N T:Nat} {Z:Type} {o:Z → Pst} (H:∀ (A:Around) (h:Heap) (g:Array GenState) (dr:Drawn) (os:OsState) (G:Prop),A.handled = none → A.depth ≤ d → A.units ≤ u → Rep C (rd.map (·.1)) h rd h → h.objs.size = N → (wpOwn (model prog w) A c t (fun f s'=>∃ z,(.ok f:Result) = (o z).f.res ∧ Aft ⟨h,g,dr,T,os⟩ s' rd (o z)) (fun _ _=>False) ⟨h,g,dr,T,os⟩ → G) → G):SCon prog w C d u c t rd N T o:=by
  intro A s hz hd hu ht hh nd off hN hT
  obtain ⟨h,g,dr,tk,os⟩:=s
  have hT2:tk = T:=hT
  subst hT2
  exact H A h g dr os _ hz hd hu (rep_start ht hh nd off) hN id
theorem own_EX (O:C.Ok prog w) {A:Around} (hA:A.handled = none) {n:Nat} {F:Fam} {mem ctl:List Nat} {c:Code} {l:List Stmt} {env:Env} {L:Led} {N T:Nat} {S:List Addr} {h₀ h:Heap} {g:Array GenState} {d:Drawn} {os:OsState} {Q:Flow → Shared → Prop} {E:Value → Shared → Prop}
    (hF:F.Fits fun os=>run C n mem ctl os c .base (EX l env >>= fun f=>pure (.done f)) L N T [] [] [] []) (D:Rep C S h₀ L h) (hN:h.objs.size = N)
    (H:F.Holds prog w C A ⟨fun fin s'=>match fin with | .done f=>Q f s' | .again _=>False,E⟩ S h₀ g d os) :
    wpOwn (model prog w) A c (execs l env) Q E ⟨h,g,d,T,os⟩:=by
  have z:=sound O hA n hF D hN H
  rw [EX_eq] at z
  intro Γ p hc hΓ
  have z':=z Γ p hc hΓ
  rw [Sem.wp_bind'] at z'
  exact Sem.wp_mono _ Γ _ (fun f p' s' h=>h) (fun _ _ _ h=>h) p _ z'
theorem own_EV (O:C.Ok prog w) {A:Around} (hA:A.handled = none) {n:Nat} {F:Fam} {mem ctl:List Nat} {c:Code} {e:Expr} {env:Env} {L:Led} {N T:Nat} {S:List Addr} {h₀ h:Heap} {g:Array GenState} {d:Drawn} {os:OsState} {Q:Value → Shared → Prop} {E:Value → Shared → Prop}
    (hF:F.Fits fun os=>run C n mem ctl os c .base (EV e env >>= fun v=>pure (.done (.ret v))) L N T [] [] [] []) (D:Rep C S h₀ L h) (hN:h.objs.size = N)
    (H:F.Holds prog w C A ⟨fun fin s'=>match fin with | .done (.ret v)=>Q v s' | _=>False,E⟩ S h₀ g d os) :
    wpOwn (model prog w) A c (eval e env) Q E ⟨h,g,d,T,os⟩:=by
  have z:=sound O hA n hF D hN H
  rw [EV_eq] at z
  intro Γ p hc hΓ
  have z':=z Γ p hc hΓ
  rw [Sem.wp_bind'] at z'
  exact Sem.wp_mono _ Γ _ (fun f p' s' h=>h) (fun _ _ _ h=>h) p _ z'
theorem wp_execs_app {M:Model} {Γ:Ctx} {env:Env} {Q:Flow → Pos → Shared → Prop} {E:Value → Pos → Shared → Prop} {r:List Stmt}:∀ (l:List Stmt) (p:Pos) (s:Shared),
    Sem.wp M Γ (execs l env) (fun f p' s'=>match f with | .next=>Sem.wp M Γ (execs r env) Q E p' s' | f=>Q f p' s') E p s → Sem.wp M Γ (execs (l++r) env) Q E p s
  | [],p,s,h=>h
  | st :: l,p,s,h=>by
    rw [execs_cons,Sem.wp_bind'] at h
    rw [List.cons_append,execs_cons,Sem.wp_bind']
    refine Sem.wp_mono _ Γ _ (fun f p' s' h'=>?_) (fun _ _ _ h=>h) p s h
    cases f with
    | next=>exact wp_execs_app l p' s' h'
    | brk=>exact h'
    | cont=>exact h'
    | ret v=>exact h'
theorem own_execs_app {A:Around} {c:Code} {env:Env} {Q:Flow → Shared → Prop} {E:Value → Shared → Prop} {r l:List Stmt} {s:Shared}
    (h:wpOwn (model prog w) A c (execs l env) (fun f s'=>match f with | .next=>wpOwn (model prog w) A c (execs r env) Q E s' | f=>Q f s') E s):wpOwn (model prog w) A c (execs (l++r) env) Q E s:=by
  intro Γ p hc hΓ
  refine wp_execs_app l p s (Sem.wp_mono _ Γ _ (fun f p' s' h'=>?_) (fun _ _ _ h=>h) p s (h Γ p hc hΓ))
  cases f with
  | next=>exact h' Γ p' hc hΓ
  | brk=>exact h'
  | cont=>exact h'
  | ret v=>exact h'
theorem own_If {A:Around} {c:Code} {env:Env} {Q:Flow → Shared → Prop} {E:Value → Shared → Prop} {s:Shared} {test:Expr} {body orelse:List Stmt} {pos:Pos}
    (h:wpOwn (model prog w) A c (isTrue test env (eval test env)) (fun b s'=>if b then wpOwn (model prog w) A c (execs body env) Q E s' else wpOwn (model prog w) A c (execs orelse env) Q E s') E s) :
    wpOwn (model prog w) A c (exec (.If test body orelse pos) env) Q E s:=fun Γ p hc hΓ=>by
  simp only [exec_If,Sem.wp_bind',Sem.wp_cmd_standAt]
  refine Sem.wp_mono _ Γ _ (fun b p₂ s₂ h₂=>?_) (fun _ _ _ h'=>h') _ _ (h Γ _ hc hΓ)
  cases b <;> exact h₂ Γ p₂ hc hΓ
theorem own_isTrue_Cmp {A:Around} {c:Code} {env:Env} {E:Value → Shared → Prop} {s:Shared} {l r:Expr} {op:CmpOp} {pos:Pos} {whole:Sem Value} {Q:Bool → Shared → Prop}
    (h:wpOwn (model prog w) A c (eval l env) (fun a s₁=>wpOwn (model prog w) A c (eval r env) (fun b s₂=>wpOwn (model prog w) A c (compareOp op a b)
      (fun v s₃=>wpOwn (model prog w) A c (truthy v) Q E s₃) E s₂) E s₁) E s)
    (hm:behindInMarks op r = false):wpOwn (model prog w) A c (isTrue (.Compare l [op] [r] pos) env whole) Q E s:=fun Γ p hc hΓ=>by
  simp only [isTrue_Compare1,markedBehindIn_of_false hm,Sem.wp_bind',Sem.wp_holding,Sem.wp_cmd_standAt,Sem.wp_operate]
  exact Sem.wp_mono _ Γ _ (fun a p₁ s₁ h₁=>Sem.wp_mono _ Γ _ (fun b _ s₂ h₂=>Sem.wp_mono _ Γ _ (fun v p₃ s₃ h₃=>h₃ Γ p₃ hc hΓ)
    (fun _ _ _ h'=>h') _ _ (h₂ Γ _ hc hΓ)) (fun _ _ _ h'=>h') _ _ (h₁ Γ p₁ hc hΓ)) (fun _ _ _ h'=>h') _ _ (h Γ p hc hΓ)
theorem own_Cmp {A:Around} {c:Code} {env:Env} {E:Value → Shared → Prop} {s:Shared} {l r:Expr} {op:CmpOp} {pos:Pos} {Q:Value → Shared → Prop}
    (h:wpOwn (model prog w) A c (eval l env) (fun a s₁=>wpOwn (model prog w) A c (eval r env) (fun b s₂=>wpOwn (model prog w) A c (compareOp op a b) Q E s₂) E s₁) E s)
    (hm:behindInMarks op r = false):wpOwn (model prog w) A c (eval (.Compare l [op] [r] pos) env) Q E s:=fun Γ p hc hΓ=>by
  simp only [eval_Compare1,markedBehindIn_of_false hm,Sem.wp_bind',Sem.wp_holding,Sem.wp_cmd_standAt,Sem.wp_operate]
  exact Sem.wp_mono _ Γ _ (fun a p₁ s₁ h₁=>Sem.wp_mono _ Γ _ (fun b _ s₂ h₂=>h₂ Γ _ hc hΓ) (fun _ _ _ h'=>h') _ _ (h₁ Γ p₁ hc hΓ)) (fun _ _ _ h'=>h') _ _ (h Γ p hc hΓ)
end
section
open PyProof.Rows PySem.Spec
variable {prog:Program} {w:World} {C:Cf}
theorem own_isTrue_or {A:Around} {c:Code} {env:Env} {E:Value → Shared → Prop} {s:Shared} {x:Expr} {rest:List Expr} {pos:Pos} {whole:Sem Value} {Q:Bool → Shared → Prop}
    (h:wpOwn (model prog w) A c (isTrue x env (eval x env)) (fun v s'=>if v then Q true s' else wpOwn (model prog w) A c (isTrue (.BoolOp .Or rest pos) env whole) Q E s') E s) :
    wpOwn (model prog w) A c (isTrue (.BoolOp .Or (x :: rest) pos) env whole) Q E s:=by
  show wpOwn _ _ _ (do
    match BoolOp.Or,← isTrue x env (eval x env) with
    | .And,false=>pure false
    | .Or,true=>pure true
    | _,_=>allTrue .Or rest env) Q E s
  refine wpOwn_bind (wpOwn_mono h (fun v s' h'=>?_) fun _ _ x=>x)
  cases v with
  | false=>exact h'
  | true=>exact wpOwn_of_wpAny (wpAny_pure h')
theorem own_isTrue_or_nil {A:Around} {c:Code} {env:Env} {E:Value → Shared → Prop} {s:Shared} {pos:Pos} {whole:Sem Value} {Q:Bool → Shared → Prop} (h:Q false s):wpOwn (model prog w) A c (isTrue (.BoolOp .Or [] pos) env whole) Q E s:=wpOwn_of_wpAny (isTrue_or_nil h)
theorem conSortedL {d u N T e:Nat} {l:Addr} {vs:List Value} {xs ys:List Str} (hx:TX vs xs) (hl:xs.length < 64) (hy:sortW xs = ys) :
    Con prog w C d u (.builtin "sorted" ⟨[.ref l],[]⟩) [(l,lst vs e)] N T (fun z:{z:List Value × Nat // TX z.1 ys}=>⟨.ret (.ref (N + 1)),[lst vs e],[(N + 1,lst z.1.1 z.1.2)],N + 4,T⟩):=by
  intro A s hz _ _ _ hh nd _ hN hT
  refine codeAny_builtin PyProof.Rows.entry_sorted ?_
  rw [Around.under_plainId PyProof.Rows.plain_sorted]
  have ho:=hh _ (.head _)
  have hli:s.heap.IsList l vs.toArray:=⟨_,ho,rfl,e,rfl⟩
  have hS:=hx.strsAre
  have h64:vs.length < 64:=by rw [hx.len]; exact hl
  unfold Builtin.«sorted»
  refine wpAny_bind (m:=checkCount "sorted" 1 1 _) (wpAny_pure ?_)
  refine wpAny_bind (collect_list hli ?_)
  refine wpAny_bind (wpAny_newList ?_)
  have hsz:((s.heap.push (seqObj "list" #[] 0)).update s.heap.objs.size (Obj.mapSeq (·++vs.toArray))).objs.size = s.heap.objs.size + 1:=by
    rw [Heap.size_update,size_push']
  have hoL:(((s.heap.push (seqObj "list" #[] 0)).update s.heap.objs.size (Obj.mapSeq (·++vs.toArray))).push (seqObj "list" vs.toArray 0)).get? (s.heap.objs.size + 1) = some (seqObj "list" vs.toArray 0):=by
    rw [← hsz]; exact Heap.get?_push_size _ rfl
  show wpAny _ _ _ _ _ { s with heap:=((s.heap.push (seqObj "list" #[] 0)).update s.heap.objs.size (Obj.mapSeq (·++vs.toArray))).push (seqObj "list" vs.toArray 0) }
  rw [hsz]
  refine wpAny_bind (wpAny_holding (wpAny_call_entry slot_list_sort ⟨_,hoL,rfl⟩ entry_list_sort (list_sort_treeK strKind_oneLt hoL hS.keysOf (fun v₁ v₂ rest h=>keyKind_strs (by rw [← h]; exact hS)) h64 fun st' hp hs=>⟨_,rfl,?_⟩) (args_list_sort _)))
  obtain ⟨ss',h1,h2,h3⟩:=sorted_out_str hS hp hs
  have hsort:ss' = ys:=(eq_sortW h2 h3).trans hy
  obtain ⟨e',he'⟩:=sortedAll_at s.heap vs ((arrOf st').map (·.2))
  subst hN hT
  have hsz2:(sortedAll s.heap vs ((arrOf st').map (·.2))).objs.size = s.heap.objs.size + 4:=by
    unfold sortedAll sortedHeap
    simp
  refine wpAny_pure ⟨⟨(((arrOf st').map (·.2)).toList,e'),by rw [← hsort]; exact tx_of_strsAre h1⟩,rfl,?_⟩
  exact { gens:=rfl,drawn:=rfl,os:=rfl,toks:=rfl,size:=hsz2,grow:=Nat.le_add_right _ _
          wr:=fun p hp=>by
            have:p = (l,lst vs e):=by simpa using hp
            rw [this]; exact sortedAll_old ho
          nw:=fun p hp=>by
            have:p = (s.heap.objs.size + 1,lst ((arrOf st').map (·.2)).toList e'):=by simpa using hp
            rw [this]; exact ⟨he',Nat.le_succ _⟩
          nd:=by simp
          keep:=fun b o hb n=>sortedAll_old hb }
theorem own_ne_lists {A:Around} {c:Code} {E:Value → Shared → Prop} {s:Shared} {a b:Addr} {va vb:List Value} {ea eb:Nat} {xs:List Str} {Q:Value → Shared → Prop} (ha:s.heap.get? a = some (lst va ea)) (hb:s.heap.get? b = some (lst vb eb)) (hxa:TX va xs) (hxb:TX vb xs) (hu:(A.under c).units < cLine)
    (h:Q (.bool false) s):wpOwn (model prog w) A c (compareOp .NotEq (.ref a) (.ref b)) Q E s:=by
  obtain ⟨ps,rfl,h1⟩:=hxa
  obtain ⟨qs,rfl,h2⟩:=hxb
  have hlen:ps.length = qs.length:=by
    have:=congrArg List.length (h1.trans h2.symm)
    simpa using this
  refine wpOwn_of_wpAny (SeqAt.RcNeAt.lists (items:=⟨ps.map fun p=>.str p.1 p.2⟩) (items2:=⟨qs.map fun p=>.str p.1 p.2⟩) (e:=fun _=>true) ⟨_,ha,rfl,ea,rfl⟩ ⟨_,hb,rfl,eb,rfl⟩ (by simpa using hlen) hu ?_ prog w E Q ?_)
  · intro j h3 h4
    have h3':j < ps.length:=by simpa using h3
    have h4':j < qs.length:=by simpa using h4
    have e1:ps[j].1 = qs[j].1:=by
      have:=congrArg (fun l:List Str=>l[j]?) (h1.trans h2.symm)
      simp only [List.getElem?_map,List.getElem?_eq_getElem h3',List.getElem?_eq_getElem h4'] at this
      simpa using this
    have:=SeqAt.EqAt.str_str (A:=(A.under c).in1) (s:=s) ps[j].1 ps[j].2 qs[j].1 qs[j].2
    rw [e1,beq_self_eq_true] at this
    simp only [List.getElem_toArray,List.getElem_map] at this ⊢
    rw [e1]; exact this
  · have hall:∀ n:Nat,(List.range n).all (fun _=>true) = true:=fun n=>by simp [List.all_eq_true]
    rw [hall]; exact h
theorem own_ne_ints {A:Around} {c:Code} {E:Value → Shared → Prop} {s:Shared} {a b:Addr} {va vb:List Value} {ea eb:Nat} {xs:List Int} {Q:Value → Shared → Prop} (ha:s.heap.get? a = some (lst va ea)) (hb:s.heap.get? b = some (lst vb eb)) (hxa:IX va xs) (hxb:IX vb xs) (hu:(A.under c).units < cLine)
    (h:Q (.bool false) s):wpOwn (model prog w) A c (compareOp .NotEq (.ref a) (.ref b)) Q E s:=by
  obtain ⟨ps,rfl,h1⟩:=hxa
  obtain ⟨qs,rfl,h2⟩:=hxb
  have hlen:ps.length = qs.length:=by
    have:=congrArg List.length (h1.trans h2.symm)
    simpa using this
  refine wpOwn_of_wpAny (SeqAt.RcNeAt.lists (items:=⟨ps.map fun p=>.int p.1 p.2⟩) (items2:=⟨qs.map fun p=>.int p.1 p.2⟩) (e:=fun _=>true) ⟨_,ha,rfl,ea,rfl⟩ ⟨_,hb,rfl,eb,rfl⟩ (by simpa using hlen) hu ?_ prog w E Q ?_)
  · intro j h3 h4
    have h3':j < ps.length:=by simpa using h3
    have h4':j < qs.length:=by simpa using h4
    have e1:ps[j].1 = qs[j].1:=by
      have:=congrArg (fun l:List Int=>l[j]?) (h1.trans h2.symm)
      simp only [List.getElem?_map,List.getElem?_eq_getElem h3',List.getElem?_eq_getElem h4'] at this
      simpa using this
    have:=SeqAt.EqAt.int_int (A:=(A.under c).in1) (s:=s) ps[j].1 ps[j].2 qs[j].1 qs[j].2
    rw [e1,beq_self_eq_true] at this
    simp only [List.getElem_toArray,List.getElem_map] at this ⊢
    rw [e1]; exact this
  · have hall:∀ n:Nat,(List.range n).all (fun _=>true) = true:=fun n=>by simp [List.all_eq_true]
    rw [hall]; exact h
theorem own_eq_ints {A:Around} {c:Code} {E:Value → Shared → Prop} {s:Shared} {a b:Addr} {va vb:List Value} {ea eb:Nat} {xs:List Int} {Q:Value → Shared → Prop} (ha:s.heap.get? a = some (lst va ea)) (hb:s.heap.get? b = some (lst vb eb)) (hxa:IX va xs) (hxb:IX vb xs) (hu:(A.under c).units < cLine)
    (h:Q (.bool true) s):wpOwn (model prog w) A c (compareOp .Eq (.ref a) (.ref b)) Q E s:=by
  obtain ⟨ps,rfl,h1⟩:=hxa
  obtain ⟨qs,rfl,h2⟩:=hxb
  have hlen:ps.length = qs.length:=by
    have:=congrArg List.length (h1.trans h2.symm)
    simpa using this
  refine wpOwn_of_wpAny (SeqAt.eq_listAt (items:=⟨ps.map fun p=>.int p.1 p.2⟩) (items2:=⟨qs.map fun p=>.int p.1 p.2⟩) (e:=fun _=>true) ⟨_,ha,rfl,ea,rfl⟩ ⟨_,hb,rfl,eb,rfl⟩ (by simpa using hlen) hu ?_ ?_)
  · intro j h3 h4
    have h3':j < ps.length:=by simpa using h3
    have h4':j < qs.length:=by simpa using h4
    have e1:ps[j].1 = qs[j].1:=by
      have:=congrArg (fun l:List Int=>l[j]?) (h1.trans h2.symm)
      simp only [List.getElem?_map,List.getElem?_eq_getElem h3',List.getElem?_eq_getElem h4'] at this
      simpa using this
    have:=SeqAt.EqAt.int_int (A:=(A.under c).in1) (s:=s) ps[j].1 ps[j].2 qs[j].1 qs[j].2
    rw [e1,beq_self_eq_true] at this
    simp only [List.getElem_toArray,List.getElem_map] at this ⊢
    rw [e1]; exact this
  · have hall:∀ n:Nat,(List.range n).all (fun _=>true) = true:=fun n=>by simp [List.all_eq_true]
    rw [hall]; exact h
theorem own_ne_strs {A:Around} {c:Code} {E:Value → Shared → Prop} {s:Shared} {x:Str} {t u:Tok} {Q:Value → Shared → Prop} (h:Q (.bool false) s):wpOwn (model prog w) A c (compareOp .NotEq (.str x t) (.str x u)) Q E s:=by
  have:=SeqAt.RcNeAt.str_str (A:=A.under c) (s:=s) x t x u
  rw [beq_self_eq_true] at this
  exact wpOwn_of_wpAny (this prog w E Q h)
theorem own_truthy {A:Around} {c:Code} {E:Value → Shared → Prop} {s:Shared} {v:Bool} {Q:Bool → Shared → Prop} (h:Q v s):wpOwn (model prog w) A c (truthy (.bool v)) Q E s:=wpOwn_of_wpAny (wpAny_truthy_bool h)
end
end Mine
end
section
namespace Mine
section
variable (b:Bool) (P:Params) (N T:Nat)
theorem s4 (aF aC:Addr) (V:WV) (GL:LW → Prop) (gl0:{z:LW // GL z}):Sx b P 20 [0,2,0,3,3] [1] (cd147 aF aC) (EX (lawS 4 1) (env147 aF aC) >>= fun f=>pure (.done f)) [(111,(tableObj ⟨[]⟩)),(aF,(frW P V 6)),(aC,(cel none))] N T (.ask {z:LW // GL z} ⟨(.call (.ref 116) ⟨[(.str V.tx (V.k 23))],[]⟩),1,3,[(111,(tableObj ⟨[]⟩))],N,T⟩ [0] (fun z1=>⟨(.ret (.ref z1.1.X.a)),[(tab2 z1.1.X.cod0 z1.1.X.cod)],(lexL P z1.1.X z1.1.n z1.1.tn z1.1.S z1.1.e [] 0++[(z1.1.X.cod0,(fds "code" z1.1.cv0))]),z1.1.N,z1.1.T⟩) fun z1=>.fin (.ok (.done .next)) ([(111,(tab2 z1.1.X.cod0 z1.1.X.cod)),(aF,(frW P V 6)),(aC,(cel (some (.ref z1.1.X.a))))]++(lexL P z1.1.X z1.1.n z1.1.tn z1.1.S z1.1.e [] 0++[(z1.1.X.cod0,(fds "code" z1.1.cv0))])) z1.1.N z1.1.T):=fx 1 ⟨⟨gl0⟩,fun z1=>trivial⟩ (by kernel_rfl)
theorem s5 (aF aC:Addr) (V:WV) (X:LX) (n:Int) (tn:Tok) (S B ws:List Value) (e e1 e3:Nat) (GC:CW → Prop) (gc0:{z:CW // GC z}):Sx b P 36 [11,12,12,12,13,11,11,15,15,15] [0,0,1] (cd147 aF aC) (EX (lawS 5 1) (env147 aF aC) >>= fun f=>pure (.done f)) (lexL P X n tn S e B e1++[(aC,(cel (some (.ref X.a)))),(aF,(frW P V 6)),(V.sp,(lst ws e3))]) N T (.ask {z:CW // GC z} ⟨(cs147 ceA aF aC (N + 2) N (N + 1)),1,3,(lexL P X n tn S e B e1++[(aC,(cel (some (.ref X.a)))),(N,(LI [(.ref V.sp),(.int 0 0)])),(V.sp,(lst ws e3)),((N + 1),(lst [] 0)),((N + 2),(dob #[] 0))]),(N + 3),T⟩ [0,1,2,3,4,5,6,7,8,9,12,11,13,14] (fun z1=>⟨.next,(lexO P X z1.1.q.n z1.1.q.tn z1.1.q.S z1.1.q.e z1.1.q.B z1.1.q.e1++[(cel (some (.ref X.a))),(LI [.none,(.int z1.1.i 0)]),(lst ws e3),(lst z1.1.vs z1.1.ev),(dct P [(J14,z1.1.kk,(.str z1.1.x z1.1.t))] 1)]),[],z1.1.N,z1.1.T⟩) fun z1=>.fin (.ok (.done .next)) (lexL P X z1.1.q.n z1.1.q.tn z1.1.q.S z1.1.q.e z1.1.q.B z1.1.q.e1++[(aC,(cel (some (.ref X.a)))),(aF,(frm P [(J17,(V.k 0),(.ref V.sc)),(J22,(V.k 1),(.int V.tot (V.k 21))),(J3,(V.k 2),(.ref V.sp)),(J20,(V.k 3),(.str V.tx (V.k 23))),(J24,(V.k 4),(.int V.xv (V.k 24))),(J14,(V.k 5),(.str V.bx (V.k 25))),(J33,z1.1.T,(.ref (N + 1)))] 7)),(V.sp,(lst ws e3)),(N,(LI [.none,(.int z1.1.i 0)])),((N + 1),(lst z1.1.vs z1.1.ev)),((N + 2),(dob #[] 2))]) z1.1.N (z1.1.T + 1)):=fx 1 ⟨⟨gc0⟩,fun z1=>trivial⟩ (by kernel_rfl)
theorem s7 (aF aC:Addr) (V:WV) (X:LX) (n:Int) (tn:Tok) (S B us:List Value) (e e1 e2:Nat) (GP:PW → Prop) (gp0:{z:PW // GP z}):Sx b P 20 [10,12,12,12,13] [0,0,1] (cd147 aF aC) (EX (lawS 7 1) (env147 aF aC) >>= fun f=>pure (.done f)) (lexL P X n tn S e B e1++[(aF,(frW P V 7)),(aC,(cel (some (.ref X.a)))),(V.td,(lst us e2))]) N T (.ask {z:PW // GP z} ⟨(fl147B aF aC N),1,3,(lexL P X n tn S e B e1++[(aF,(frW P V 7)),(aC,(cel (some (.ref X.a)))),(N,(LI [(.ref V.td),(.int 0 0)])),(V.td,(lst us e2))]),(N + 1),T⟩ [0,1,2,3,4,5,6,7,8,9,10,12,11] (fun z1=>⟨.next,(lexO P X n tn S e z1.1.B z1.1.e1++[(frW P { V with bx:=z1.1.bx,k:=z1.1.k } 7),(cel (some (.ref X.a))),(LI [.none,(.int z1.1.i 0)]),(lst us e2)]),[],z1.1.N,z1.1.T⟩) fun z1=>.fin (.ok (.done .next)) (lexL P X n tn S e z1.1.B z1.1.e1++[(aF,(frW P { V with bx:=z1.1.bx,k:=z1.1.k } 7)),(aC,(cel (some (.ref X.a)))),(V.td,(lst us e2)),(N,(LI [.none,(.int z1.1.i 0)]))]) z1.1.N z1.1.T):=fx 1 ⟨⟨gp0⟩,fun z1=>trivial⟩ (by kernel_rfl)
theorem wp1 (aF aC:Addr) (V:WV) (X:LX) (io:Addr) (n i:Int) (tn t10:Tok) (S B us:List Value) (x0:Str) (e e1 e2:Nat):Sg b P 44 [12,12,10,10,11,1,0,0,0,1,0,0,0,1,0,0,0,0,1,2,10,0] [0,1,1] (fl147B aF aC io) (lexL P X n tn S e B e1++[(aF,(frW P V 7)),(aC,(cel (some (.ref X.a)))),(io,(LI [(.ref V.td),(.int i 0)])),(V.td,(lst us e2))]) N T (.ask Unit ⟨(.builtin "list_iterator.__next__" ⟨[(.ref io)],[]⟩),0,0,[(io,(LI [(.ref V.td),(.int i 0)])),(V.td,(lst us e2))],N,T⟩ [11,12] (fun z1=>⟨(.ret (.str x0 t10)),[(LI [(.ref V.td),(.int (i + 1) 0)]),(lst us e2)],[],N,T⟩) fun z1=>.ask (Nat × Nat) ⟨(.call (.ref 102) ⟨[(.ref X.a),(.str x0 t10)],[]⟩),0,0,(lexL P X n tn S e B e1),N,(T + 1)⟩ [0,1,2,3,4,5,6,7,8] (fun z2=>⟨(.ret .none),(lexO P X n tn S e (sn B (.str x0 t10)) (e1 + 1)),[],z2.1,z2.2⟩) fun z2=>.fin (.ok (.again (fl147B aF aC io))) (lexL P X n tn S e (sn B (.str x0 t10)) (e1 + 1)++[(aF,(frm P [(J17,(V.k 0),(.ref V.sc)),(J22,(V.k 1),(.int V.tot (V.k 21))),(J3,(V.k 2),(.ref V.sp)),(J20,(V.k 3),(.str V.tx (V.k 23))),(J24,(V.k 4),(.int V.xv (V.k 24))),(J14,(V.k 5),(.str x0 t10)),(J33,(V.k 6),(.ref V.td))] 7)),(aC,(cel (some (.ref X.a)))),(io,(LI [(.ref V.td),(.int (i + 1) 0)])),(V.td,(lst us e2))]) z2.1 z2.2):=fx 2 ⟨⟨()⟩,fun z1=>⟨(0,0)⟩,fun z1 z2=>trivial⟩ (by kernel_rfl)
theorem wpz (aF aC:Addr) (V:WV) (X:LX) (io:Addr) (n i:Int) (tn t10:Tok) (S B us:List Value) (x0:Str) (e e1 e2:Nat):Sg b P 12 [12,12,15] [0,1] (fl147B aF aC io) (lexL P X n tn S e B e1++[(aF,(frW P V 7)),(aC,(cel (some (.ref X.a)))),(io,(LI [(.ref V.td),(.int i 0)])),(V.td,(lst us e2))]) N T (.ask Unit ⟨(.builtin "list_iterator.__next__" ⟨[(.ref io)],[]⟩),0,0,[(io,(LI [(.ref V.td),(.int i 0)])),(V.td,(lst us e2))],N,T⟩ [11,12] (fun z1=>⟨(.err (.ref (N + 1))),[(LI [.none,(.int i 0)]),(lst us e2)],[(N,(tup [] 0)),((N + 1),(fds "StopIteration" [(.ref N),.none,.none,.none,(.bool false),.none]))],(N + 2),T⟩) fun z1=>.fin (.ok (.again (bl147 aF aC))) (lexL P X n tn S e B e1++[(aF,(frW P V 7)),(aC,(cel (some (.ref X.a)))),(io,(LI [.none,(.int i 0)])),(V.td,(lst us e2)),(N,(tup [] 0)),((N + 1),(fds "StopIteration" [(.ref N),.none,.none,.none,(.bool false),.none]))]) (N + 2) T):=fx 1 ⟨⟨()⟩,fun z1=>trivial⟩ (by kernel_rfl)
theorem s9 (aF aC:Addr) (V:WV) (ws:List Value) (e3:Nat) (p1 p2 p3 p4 p5 L p6:Int):Sx b P 81 [1,1,1,1,1,1,0,0,1,1,1,1,1] [0,1,0,1,0,1,0,1,0,1,0,1,0,1,0,1,0,1,0,1] (cd147 aF aC) (EX (lawS 9 3) (env147 aF aC) >>= fun f=>pure (.done f)) [(aF,(frW P V 8)),(V.sp,(lst ws e3))] N T (.ask Unit ⟨(.builtin "int.__add__" ⟨[(.int V.tot (V.k 21)),(.int 1 (T + 1))],[]⟩),1,3,[],N,(T + 2)⟩ [] (fun z1=>⟨(.ret (.int p1 (T + 2))),[],[],N,(T + 3)⟩) fun z1=>.ask Unit ⟨(.builtin "int.__mod__" ⟨[(.int p1 (T + 2)),(.int 2 (T + 3))],[]⟩),1,3,[],N,(T + 4)⟩ [] (fun z2=>⟨(.ret (.int p2 (T + 4))),[],[],N,(T + 5)⟩) fun z2=>.ask Unit ⟨(.builtin "int.__add__" ⟨[(.int 1 T),(.int p2 (T + 4))],[]⟩),1,3,[],N,(T + 5)⟩ [] (fun z3=>⟨(.ret (.int V.sm (T + 5))),[],[],N,(T + 6)⟩) fun z3=>.ask Unit ⟨(.builtin "int.__floordiv__" ⟨[(.int V.tot (V.k 21)),(.int 2 (T + 8))],[]⟩),1,3,[],N,(T + 9)⟩ [] (fun z4=>⟨(.ret (.int p3 (T + 9))),[],[],N,(T + 10)⟩) fun z4=>.ask Unit ⟨(.builtin "int.__add__" ⟨[(.int p3 (T + 9)),(.int 1 (T + 10))],[]⟩),1,3,[],N,(T + 11)⟩ [] (fun z5=>⟨(.ret (.int p4 (T + 11))),[],[],N,(T + 12)⟩) fun z5=>.ask Unit ⟨(.builtin "int.__mod__" ⟨[(.int p4 (T + 11)),(.int 2 (T + 12))],[]⟩),1,3,[],N,(T + 13)⟩ [] (fun z6=>⟨(.ret (.int p5 (T + 13))),[],[],N,(T + 14)⟩) fun z6=>.ask Unit ⟨(.builtin "int.__add__" ⟨[(.int 2 (T + 7)),(.int p5 (T + 13))],[]⟩),1,3,[],N,(T + 14)⟩ [] (fun z7=>⟨(.ret (.int V.wd (T + 14))),[],[],N,(T + 15)⟩) fun z7=>.ask Unit ⟨(.builtin "len" ⟨[(.ref V.sp)],[]⟩),1,3,[(V.sp,(lst ws e3))],N,(T + 16)⟩ [1] (fun z8=>⟨(.ret (.int L (T + 17))),[(lst ws e3)],[],N,(T + 18)⟩) fun z8=>.ask Unit ⟨(.builtin "int.__add__" ⟨[(.int L (T + 17)),(.int V.sm (T + 5))],[]⟩),1,3,[],N,(T + 18)⟩ [] (fun z9=>⟨(.ret (.int p6 (T + 18))),[],[],N,(T + 19)⟩) fun z9=>.ask Unit ⟨(.builtin "int.__add__" ⟨[(.int p6 (T + 18)),(.int V.wd (T + 14))],[]⟩),1,3,[],N,(T + 19)⟩ [] (fun z10=>⟨(.ret (.int V.sz (T + 19))),[],[],N,(T + 20)⟩) fun z10=>.fin (.ok (.done .next)) [(aF,(frm P [(J17,(V.k 0),(.ref V.sc)),(J22,(V.k 1),(.int V.tot (V.k 21))),(J3,(V.k 2),(.ref V.sp)),(J20,(V.k 3),(.str V.tx (V.k 23))),(J24,(V.k 4),(.int V.xv (V.k 24))),(J14,(V.k 5),(.str V.bx (V.k 25))),(J33,(V.k 6),(.ref V.td)),(J32,(V.k 7),(.ref V.oth)),(J35,(T + 6),(.int V.sm (T + 5))),(J42,(T + 15),(.int V.wd (T + 14))),(J5,(T + 20),(.int V.sz (T + 19)))] 11)),(V.sp,(lst ws e3))] N (T + 21)):=fx 10 ⟨⟨()⟩,fun z1=>⟨()⟩,fun z1 z2=>⟨()⟩,fun z1 z2 z3=>⟨()⟩,fun z1 z2 z3 z4=>⟨()⟩,fun z1 z2 z3 z4 z5=>⟨()⟩,fun z1 z2 z3 z4 z5 z6=>⟨()⟩,fun z1 z2 z3 z4 z5 z6 z7=>⟨()⟩,fun z1 z2 z3 z4 z5 z6 z7 z8=>⟨()⟩,fun z1 z2 z3 z4 z5 z6 z7 z8 z9=>⟨()⟩,fun z1 z2 z3 z4 z5 z6 z7 z8 z9 z10=>trivial⟩ (by kernel_rfl)
theorem s12 (aF aC:Addr) (V:WV) (X:LX) (n:Int) (tn:Tok) (S B:List Value) (e e1:Nat) (GH:HC → Prop) (gh0:{z:HC // GH z}):Sx b P 26 [0,10,11,11,0,11,11] [1] (cd147 aF aC) (EX (lawS 12 1) (env147 aF aC) >>= fun f=>pure (.done f)) (lexL P X n tn S e B e1++[(aC,(cel (some (.ref X.a)))),(aF,(frW P V 11))]) N T (.ask {z:HC // GH z} ⟨(.call (.ref 130) ⟨[(.ref X.a),(.int V.sz (V.k 30)),(.int V.sm (V.k 28))],[]⟩),1,3,(lexL P X n tn S e B e1),N,T⟩ [0,1,2,3,4,5,6,7,8] (fun z1=>⟨(.ret (.ref z1.1.tu)),(lexO P X z1.1.q.n z1.1.q.tn z1.1.q.S z1.1.q.e z1.1.q.B z1.1.q.e1),[(z1.1.lb,(lst z1.1.bs z1.1.e2)),(z1.1.tu,(tup [(.int z1.1.f z1.1.tf),(.ref z1.1.lb)] 0))],z1.1.N,z1.1.T⟩) fun z1=>.fin (.ok (.done .next)) (lexL P X z1.1.q.n z1.1.q.tn z1.1.q.S z1.1.q.e z1.1.q.B z1.1.q.e1++[(aC,(cel (some (.ref X.a)))),(aF,(frm P [(J17,(V.k 0),(.ref V.sc)),(J22,(V.k 1),(.int V.tot (V.k 21))),(J3,(V.k 2),(.ref V.sp)),(J20,(V.k 3),(.str V.tx (V.k 23))),(J24,(V.k 4),(.int V.xv (V.k 24))),(J14,(V.k 5),(.str V.bx (V.k 25))),(J33,(V.k 6),(.ref V.td)),(J32,(V.k 7),(.ref V.oth)),(J35,(V.k 8),(.int V.sm (V.k 28))),(J42,(V.k 9),(.int V.wd (V.k 29))),(J5,(V.k 10),(.int V.sz (V.k 30))),(J48,z1.1.T,(.ref z1.1.tu))] 12)),(z1.1.lb,(lst z1.1.bs z1.1.e2)),(z1.1.tu,(tup [(.int z1.1.f z1.1.tf),(.ref z1.1.lb)] 0))]) z1.1.N (z1.1.T + 1)):=fx 1 ⟨⟨gh0⟩,fun z1=>trivial⟩ (by kernel_rfl)
theorem s13 (aF aC:Addr) (V:WV) (X:LX) (n:Int) (tn:Tok) (S B:List Value) (e e1:Nat) (GH:HC → Prop) (gh0:{z:HC // GH z}):Sx b P 26 [0,10,11,11,0,11,11] [1] (cd147 aF aC) (EX (lawS 13 1) (env147 aF aC) >>= fun f=>pure (.done f)) (lexL P X n tn S e B e1++[(aC,(cel (some (.ref X.a)))),(aF,(frW P V 12))]) N T (.ask {z:HC // GH z} ⟨(.call (.ref 137) ⟨[(.ref X.a),(.int V.sz (V.k 30)),(.int V.wd (V.k 29))],[]⟩),1,3,(lexL P X n tn S e B e1),N,T⟩ [0,1,2,3,4,5,6,7,8] (fun z1=>⟨(.ret (.ref z1.1.tu)),(lexO P X z1.1.q.n z1.1.q.tn z1.1.q.S z1.1.q.e z1.1.q.B z1.1.q.e1),[(z1.1.lb,(lst z1.1.bs z1.1.e2)),(z1.1.tu,(tup [(.int z1.1.f z1.1.tf),(.ref z1.1.lb)] 0))],z1.1.N,z1.1.T⟩) fun z1=>.fin (.ok (.done .next)) (lexL P X z1.1.q.n z1.1.q.tn z1.1.q.S z1.1.q.e z1.1.q.B z1.1.q.e1++[(aC,(cel (some (.ref X.a)))),(aF,(frm P [(J17,(V.k 0),(.ref V.sc)),(J22,(V.k 1),(.int V.tot (V.k 21))),(J3,(V.k 2),(.ref V.sp)),(J20,(V.k 3),(.str V.tx (V.k 23))),(J24,(V.k 4),(.int V.xv (V.k 24))),(J14,(V.k 5),(.str V.bx (V.k 25))),(J33,(V.k 6),(.ref V.td)),(J32,(V.k 7),(.ref V.oth)),(J35,(V.k 8),(.int V.sm (V.k 28))),(J42,(V.k 9),(.int V.wd (V.k 29))),(J5,(V.k 10),(.int V.sz (V.k 30))),(J48,(V.k 11),(.ref V.o1)),(J53,z1.1.T,(.ref z1.1.tu))] 13)),(z1.1.lb,(lst z1.1.bs z1.1.e2)),(z1.1.tu,(tup [(.int z1.1.f z1.1.tf),(.ref z1.1.lb)] 0))]) z1.1.N (z1.1.T + 1)):=fx 1 ⟨⟨gh0⟩,fun z1=>trivial⟩ (by kernel_rfl)
theorem s14 (aF aC:Addr) (V:WV) (X:LX) (n:Int) (tn:Tok) (S B:List Value) (e e1:Nat) (GH:HC → Prop) (gh0:{z:HC // GH z}):Sx b P 26 [0,10,10,10,0,10,10] [1] (cd147 aF aC) (EX (lawS 14 1) (env147 aF aC) >>= fun f=>pure (.done f)) (lexL P X n tn S e B e1++[(aF,(frm P [(J17,(V.k 0),(.ref V.sc)),(J22,(V.k 1),(.int V.tot (V.k 21))),(J3,(V.k 2),(.ref V.sp)),(J20,(V.k 3),(.str V.tx (V.k 23))),(J24,(V.k 4),(.int V.xv (V.k 24))),(J14,(V.k 5),(.str V.bx (V.k 25))),(J33,(V.k 6),(.ref V.td)),(J32,(V.k 7),(.ref X.a)),(J35,(V.k 8),(.int V.sm (V.k 28))),(J42,(V.k 9),(.int V.wd (V.k 29))),(J5,(V.k 10),(.int V.sz (V.k 30))),(J48,(V.k 11),(.ref V.o1)),(J53,(V.k 12),(.ref V.o2))] 13))]) N T (.ask {z:HC // GH z} ⟨(.call (.ref 137) ⟨[(.ref X.a),(.int V.sz (V.k 30)),(.int V.wd (V.k 29))],[]⟩),1,3,(lexL P X n tn S e B e1),N,T⟩ [0,1,2,3,4,5,6,7,8] (fun z1=>⟨(.ret (.ref z1.1.tu)),(lexO P X z1.1.q.n z1.1.q.tn z1.1.q.S z1.1.q.e z1.1.q.B z1.1.q.e1),[(z1.1.lb,(lst z1.1.bs z1.1.e2)),(z1.1.tu,(tup [(.int z1.1.f z1.1.tf),(.ref z1.1.lb)] 0))],z1.1.N,z1.1.T⟩) fun z1=>.fin (.ok (.done .next)) (lexL P X z1.1.q.n z1.1.q.tn z1.1.q.S z1.1.q.e z1.1.q.B z1.1.q.e1++[(aF,(frm P [(J17,(V.k 0),(.ref V.sc)),(J22,(V.k 1),(.int V.tot (V.k 21))),(J3,(V.k 2),(.ref V.sp)),(J20,(V.k 3),(.str V.tx (V.k 23))),(J24,(V.k 4),(.int V.xv (V.k 24))),(J14,(V.k 5),(.str V.bx (V.k 25))),(J33,(V.k 6),(.ref V.td)),(J32,(V.k 7),(.ref X.a)),(J35,(V.k 8),(.int V.sm (V.k 28))),(J42,(V.k 9),(.int V.wd (V.k 29))),(J5,(V.k 10),(.int V.sz (V.k 30))),(J48,(V.k 11),(.ref V.o1)),(J53,(V.k 12),(.ref V.o2)),(J49,z1.1.T,(.ref z1.1.tu))] 14)),(z1.1.lb,(lst z1.1.bs z1.1.e2)),(z1.1.tu,(tup [(.int z1.1.f z1.1.tf),(.ref z1.1.lb)] 0))]) z1.1.N (z1.1.T + 1)):=fx 1 ⟨⟨gh0⟩,fun z1=>trivial⟩ (by kernel_rfl)
theorem s15 (aF aC:Addr) (V:WV) (X:LX) (n:Int) (tn:Tok) (S B:List Value) (e e1:Nat) (GH:HC → Prop) (gh0:{z:HC // GH z}):Sx b P 26 [0,10,10,10,0,10,10] [1] (cd147 aF aC) (EX (lawS 15 1) (env147 aF aC) >>= fun f=>pure (.done f)) (lexL P X n tn S e B e1++[(aF,(frm P [(J17,(V.k 0),(.ref V.sc)),(J22,(V.k 1),(.int V.tot (V.k 21))),(J3,(V.k 2),(.ref V.sp)),(J20,(V.k 3),(.str V.tx (V.k 23))),(J24,(V.k 4),(.int V.xv (V.k 24))),(J14,(V.k 5),(.str V.bx (V.k 25))),(J33,(V.k 6),(.ref V.td)),(J32,(V.k 7),(.ref X.a)),(J35,(V.k 8),(.int V.sm (V.k 28))),(J42,(V.k 9),(.int V.wd (V.k 29))),(J5,(V.k 10),(.int V.sz (V.k 30))),(J48,(V.k 11),(.ref V.o1)),(J53,(V.k 12),(.ref V.o2)),(J49,(V.k 13),(.ref V.o3))] 14))]) N T (.ask {z:HC // GH z} ⟨(.call (.ref 130) ⟨[(.ref X.a),(.int V.sz (V.k 30)),(.int V.sm (V.k 28))],[]⟩),1,3,(lexL P X n tn S e B e1),N,T⟩ [0,1,2,3,4,5,6,7,8] (fun z1=>⟨(.ret (.ref z1.1.tu)),(lexO P X z1.1.q.n z1.1.q.tn z1.1.q.S z1.1.q.e z1.1.q.B z1.1.q.e1),[(z1.1.lb,(lst z1.1.bs z1.1.e2)),(z1.1.tu,(tup [(.int z1.1.f z1.1.tf),(.ref z1.1.lb)] 0))],z1.1.N,z1.1.T⟩) fun z1=>.fin (.ok (.done .next)) (lexL P X z1.1.q.n z1.1.q.tn z1.1.q.S z1.1.q.e z1.1.q.B z1.1.q.e1++[(aF,(frm P [(J17,(V.k 0),(.ref V.sc)),(J22,(V.k 1),(.int V.tot (V.k 21))),(J3,(V.k 2),(.ref V.sp)),(J20,(V.k 3),(.str V.tx (V.k 23))),(J24,(V.k 4),(.int V.xv (V.k 24))),(J14,(V.k 5),(.str V.bx (V.k 25))),(J33,(V.k 6),(.ref V.td)),(J32,(V.k 7),(.ref X.a)),(J35,(V.k 8),(.int V.sm (V.k 28))),(J42,(V.k 9),(.int V.wd (V.k 29))),(J5,(V.k 10),(.int V.sz (V.k 30))),(J48,(V.k 11),(.ref V.o1)),(J53,(V.k 12),(.ref V.o2)),(J49,(V.k 13),(.ref V.o3)),(J55,z1.1.T,(.ref z1.1.tu))] 15)),(z1.1.lb,(lst z1.1.bs z1.1.e2)),(z1.1.tu,(tup [(.int z1.1.f z1.1.tf),(.ref z1.1.lb)] 0))]) z1.1.N (z1.1.T + 1)):=fx 1 ⟨⟨gh0⟩,fun z1=>trivial⟩ (by kernel_rfl)
theorem s17 (aF aC:Addr) (V:WV) (ws:List Value) (e3:Nat) (m1 m2:Int):Sx b P 36 [0,1,1,0,0,1,1,0,1,1] [1,1] (cd147 aF aC) (EX (lawS 17 1) (env147 aF aC) >>= fun f=>pure (.done f)) [(aF,(frW P V 15)),(V.sp,(lst ws e3))] N T (.ask (Nat × Nat × Tok) ⟨(.call (.ref 142) ⟨[(.ref V.sp),(.int V.sm (V.k 28))],[]⟩),1,3,[(V.sp,(lst ws e3))],N,T⟩ [1] (fun z1=>⟨(.ret (.int m1 z1.2.2)),[(lst ws e3)],[],z1.1,z1.2.1⟩) fun z1=>.ask (Nat × Nat × Tok) ⟨(.call (.ref 142) ⟨[(.ref V.sp),(.int V.wd (V.k 29))],[]⟩),1,3,[(V.sp,(lst ws e3))],z1.1,z1.2.1⟩ [1] (fun z2=>⟨(.ret (.int m2 z2.2.2)),[(lst ws e3)],[],z2.1,z2.2.1⟩) fun z2=>.fin (.ok (.done .next)) [(aF,(frm P [(J17,(V.k 0),(.ref V.sc)),(J22,(V.k 1),(.int V.tot (V.k 21))),(J3,(V.k 2),(.ref V.sp)),(J20,(V.k 3),(.str V.tx (V.k 23))),(J24,(V.k 4),(.int V.xv (V.k 24))),(J14,(V.k 5),(.str V.bx (V.k 25))),(J33,(V.k 6),(.ref V.td)),(J32,(V.k 7),(.ref V.oth)),(J35,(V.k 8),(.int V.sm (V.k 28))),(J42,(V.k 9),(.int V.wd (V.k 29))),(J5,(V.k 10),(.int V.sz (V.k 30))),(J48,(V.k 11),(.ref V.o1)),(J53,(V.k 12),(.ref V.o2)),(J49,(V.k 13),(.ref V.o3)),(J55,(V.k 14),(.ref V.o4)),((sg [100,117,101]),z2.2.1,(.ref z2.1))] 16)),(V.sp,(lst ws e3)),(z2.1,(lst [(.int m1 z1.2.2),(.int m2 z2.2.2)] 0))] (z2.1 + 1) (z2.2.1 + 1)):=fx 2 ⟨⟨(0,0,0)⟩,fun z1=>⟨(0,0,0)⟩,fun z1 z2=>trivial⟩ (by kernel_rfl)
theorem s8 (aF aC:Addr) (V:WV) (c0 c1:Addr) (cv0 cv1:List Value) (GL:LW → Prop) (gl0:{z:LW // GL z}):Sx b P 22 [0,4,0,4,4] [1] (cd147 aF aC) (EX (lawS 8 1) (env147 aF aC) >>= fun f=>pure (.done f)) [(111,(tab2 c0 c1)),(c0,(fds "code" cv0)),(c1,(fds "code" cv1)),(aF,(frW P V 7))] N T (.ask {z:LW // GL z} ⟨(.call (.ref 116) ⟨[(.str V.tx (V.k 23))],[]⟩),1,3,[(111,(tab2 c0 c1)),(c0,(fds "code" cv0)),(c1,(fds "code" cv1))],N,T⟩ [0,1,2] (fun z1=>⟨(.ret (.ref z1.1.X.a)),[(tab2 c0 c1),(fds "code" cv0),(fds "code" cv1)],((lexL P z1.1.X z1.1.n z1.1.tn z1.1.S z1.1.e [] 0).eraseIdx 7),z1.1.N,z1.1.T⟩) fun z1=>.fin (.ok (.done .next)) ([(111,(tab2 c0 c1)),(c0,(fds "code" cv0)),(c1,(fds "code" cv1)),(aF,(frm P [(J17,(V.k 0),(.ref V.sc)),(J22,(V.k 1),(.int V.tot (V.k 21))),(J3,(V.k 2),(.ref V.sp)),(J20,(V.k 3),(.str V.tx (V.k 23))),(J24,(V.k 4),(.int V.xv (V.k 24))),(J14,(V.k 5),(.str V.bx (V.k 25))),(J33,(V.k 6),(.ref V.td)),(J32,z1.1.T,(.ref z1.1.X.a))] 8))]++((lexL P z1.1.X z1.1.n z1.1.tn z1.1.S z1.1.e [] 0).eraseIdx 7)) z1.1.N (z1.1.T + 1)):=fx 1 ⟨⟨gl0⟩,fun z1=>trivial⟩ (by kernel_rfl)
theorem e6l (aF aC:Addr) (V:WV) :Sx b P 8 [1] [] (cd147 aF aC) (EV (leftE (testE (stW 6))) (env147 aF aC) >>= fun v=>pure (.done (.ret v))) [(aF,(frW P V 7))] N T (.fin (.ok (.done (.ret (.ref V.td)))) [(aF,(frW P V 7))] N T):=fx 0 trivial (by kernel_rfl)
theorem e6r (aF aC:Addr) (V:WV) :Sx b P 8 [1] [] (cd147 aF aC) (EV (rightE (testE (stW 6))) (env147 aF aC) >>= fun v=>pure (.done (.ret v))) [(aF,(frW P V 7))] N T (.fin (.ok (.done (.ret (.ref V.sp)))) [(aF,(frW P V 7))] N T):=fx 0 trivial (by kernel_rfl)
theorem e16al (aF aC:Addr) (V:WV) (b1 b2 b3 b4:Addr) (f1 f2 f3 f4:Int) (u1 u2 u3 u4:Tok):Sx b P 18 [1,2,2,2,2,2] [0,0] (cd147 aF aC) (EV (leftE (partE (testE (stW 16)) 0)) (env147 aF aC) >>= fun v=>pure (.done (.ret v))) [(aF,(frW P V 15)),(V.o2,(tup [(.int f2 u2),(.ref b2)] 0))] N T (.fin (.ok (.done (.ret (.ref b2)))) [(aF,(frW P V 15)),(V.o2,(tup [(.int f2 u2),(.ref b2)] 0))] N (T + 1)):=fx 0 trivial (by kernel_rfl)
theorem e16ar (aF aC:Addr) (V:WV) (b1 b2 b3 b4:Addr) (f1 f2 f3 f4:Int) (u1 u2 u3 u4:Tok):Sx b P 18 [1,2,2,2,2,2] [0,0] (cd147 aF aC) (EV (rightE (partE (testE (stW 16)) 0)) (env147 aF aC) >>= fun v=>pure (.done (.ret v))) [(aF,(frW P V 15)),(V.o4,(tup [(.int f4 u4),(.ref b4)] 0))] N T (.fin (.ok (.done (.ret (.ref b4)))) [(aF,(frW P V 15)),(V.o4,(tup [(.int f4 u4),(.ref b4)] 0))] N (T + 1)):=fx 0 trivial (by kernel_rfl)
theorem e16bl (aF aC:Addr) (V:WV) (b1 b2 b3 b4:Addr) (f1 f2 f3 f4:Int) (u1 u2 u3 u4:Tok) (v2:List Value) (e2:Nat) (ys:List Str) (xj:Str):Sx b P 32 [0,0,1,2,2,2,2,2] [0,0,0,1,0,1] (cd147 aF aC) (EV (leftE (partE (testE (stW 16)) 1)) (env147 aF aC) >>= fun v=>pure (.done (.ret v))) [(aF,(frW P V 15)),(V.o2,(tup [(.int f2 u2),(.ref b2)] 0)),(b2,(lst v2 e2))] N T (.ask {z:List Value × Nat // TX z.1 ys} ⟨(.builtin "sorted" ⟨[(.ref b2)],[]⟩),1,3,[(b2,(lst v2 e2))],N,(T + 2)⟩ [2] (fun z1=>⟨(.ret (.ref (N + 1))),[(lst v2 e2)],[((N + 1),(lst z1.1.1 z1.1.2))],(N + 4),(T + 2)⟩) fun z1=>.ask {z:Tok × Nat // (T + 2) ≤ z.2} ⟨(.builtin "str.join" ⟨[(.str J10 T),(.ref (N + 1))],[]⟩),1,3,[((N + 1),(lst z1.1.1 z1.1.2))],(N + 4),(T + 2)⟩ [3] (fun z2=>⟨(.ret (.str xj z2.1.1)),[(lst z1.1.1 z1.1.2)],[],(N + 4),z2.1.2⟩) fun z2=>.fin (.ok (.done (.ret (.str xj z2.1.1)))) [(aF,(frW P V 15)),(V.o2,(tup [(.int f2 u2),(.ref b2)] 0)),(b2,(lst v2 e2)),((N + 1),(lst z1.1.1 z1.1.2))] (N + 4) z2.1.2):=fx 2 ⟨⟨⟨(ys.map fun x=>.str x 0,0),tx_any ys⟩⟩,fun z1=>⟨⟨(0,(T + 2)),Nat.le_refl _⟩⟩,fun z1 z2=>trivial⟩ (by kernel_rfl)
theorem e16br (aF aC:Addr) (V:WV) (ws:List Value) (e3:Nat) (ys:List Str) (xj:Str):Sx b P 22 [0,0,1] [0,1,0,1] (cd147 aF aC) (EV (rightE (partE (testE (stW 16)) 1)) (env147 aF aC) >>= fun v=>pure (.done (.ret v))) [(aF,(frW P V 15)),(V.sp,(lst ws e3))] N T (.ask {z:List Value × Nat // TX z.1 ys} ⟨(.builtin "sorted" ⟨[(.ref V.sp)],[]⟩),1,3,[(V.sp,(lst ws e3))],N,(T + 1)⟩ [1] (fun z1=>⟨(.ret (.ref (N + 1))),[(lst ws e3)],[((N + 1),(lst z1.1.1 z1.1.2))],(N + 4),(T + 1)⟩) fun z1=>.ask {z:Tok × Nat // (T + 1) ≤ z.2} ⟨(.builtin "str.join" ⟨[(.str J10 T),(.ref (N + 1))],[]⟩),1,3,[((N + 1),(lst z1.1.1 z1.1.2))],(N + 4),(T + 1)⟩ [2] (fun z2=>⟨(.ret (.str xj z2.1.1)),[(lst z1.1.1 z1.1.2)],[],(N + 4),z2.1.2⟩) fun z2=>.fin (.ok (.done (.ret (.str xj z2.1.1)))) [(aF,(frW P V 15)),(V.sp,(lst ws e3)),((N + 1),(lst z1.1.1 z1.1.2))] (N + 4) z2.1.2):=fx 2 ⟨⟨⟨(ys.map fun x=>.str x 0,0),tx_any ys⟩⟩,fun z1=>⟨⟨(0,(T + 1)),Nat.le_refl _⟩⟩,fun z1 z2=>trivial⟩ (by kernel_rfl)
theorem e18al (aF aC:Addr) (V:WV) (b1 b2 b3 b4:Addr) (f1 f2 f3 f4:Int) (u1 u2 u3 u4:Tok):Sx b P 32 [1,2,2,2,2,2,1,3,3,3,3,3] [0,0,0,0] (cd147 aF aC) (EV (leftE (partE (testE (stW 18)) 0)) (env147 aF aC) >>= fun v=>pure (.done (.ret v))) [(aF,(frW P V 16)),(V.o1,(tup [(.int f1 u1),(.ref b1)] 0)),(V.o2,(tup [(.int f2 u2),(.ref b2)] 0))] N T (.fin (.ok (.done (.ret (.ref N)))) [(aF,(frW P V 16)),(V.o1,(tup [(.int f1 u1),(.ref b1)] 0)),(V.o2,(tup [(.int f2 u2),(.ref b2)] 0)),(N,(lst [(.int f1 u1),(.int f2 u2)] 0))] (N + 1) (T + 2)):=fx 0 trivial (by kernel_rfl)
theorem e18ar (aF aC:Addr) (V:WV) :Sx b P 8 [1] [] (cd147 aF aC) (EV (rightE (partE (testE (stW 18)) 0)) (env147 aF aC) >>= fun v=>pure (.done (.ret v))) [(aF,(frW P V 16))] N T (.fin (.ok (.done (.ret (.ref V.du)))) [(aF,(frW P V 16))] N T):=fx 0 trivial (by kernel_rfl)
theorem e18bl (aF aC:Addr) (V:WV) (b1 b2 b3 b4:Addr) (f1 f2 f3 f4:Int) (u1 u2 u3 u4:Tok):Sx b P 32 [1,3,3,3,3,3,1,2,2,2,2,2] [0,0,0,0] (cd147 aF aC) (EV (leftE (partE (testE (stW 18)) 1)) (env147 aF aC) >>= fun v=>pure (.done (.ret v))) [(aF,(frW P V 16)),(V.o3,(tup [(.int f3 u3),(.ref b3)] 0)),(V.o4,(tup [(.int f4 u4),(.ref b4)] 0))] N T (.fin (.ok (.done (.ret (.ref N)))) [(aF,(frW P V 16)),(V.o3,(tup [(.int f3 u3),(.ref b3)] 0)),(V.o4,(tup [(.int f4 u4),(.ref b4)] 0)),(N,(lst [(.int f4 u4),(.int f3 u3)] 0))] (N + 1) (T + 2)):=fx 0 trivial (by kernel_rfl)
theorem e18br (aF aC:Addr) (V:WV) :Sx b P 8 [1] [] (cd147 aF aC) (EV (rightE (partE (testE (stW 18)) 1)) (env147 aF aC) >>= fun v=>pure (.done (.ret v))) [(aF,(frW P V 16))] N T (.fin (.ok (.done (.ret (.ref V.du)))) [(aF,(frW P V 16))] N T):=fx 0 trivial (by kernel_rfl)
theorem e19l (aF aC:Addr) (V:WV) (X:LX) (n:Int) (tn:Tok) (S B ws:List Value) (e e1 e3:Nat) (s1:Int) (GC:CW → Prop) (gc0:{z:CW // GC z}):Sx b P 50 [0,0,11,13,13,13,13,13,13,13,14,16,16,16] [0,1,0,0,0,0,0,0,0,1,1] (cd147 aF aC) (EV (leftE (testE (stW 19))) (env147 aF aC) >>= fun v=>pure (.done (.ret v))) (lexL P X n tn S e B e1++[(aC,(cel (some (.ref X.a)))),(aF,(frW P V 16)),(V.sp,(lst ws e3))]) N T (.ask Unit ⟨(.builtin "int.__add__" ⟨[(.int V.sz (V.k 30)),(.int 1 T)],[]⟩),1,3,[],N,(T + 1)⟩ [] (fun z1=>⟨(.ret (.int s1 (T + 1))),[],[],N,(T + 2)⟩) fun z1=>.ask Unit ⟨(.builtin "range.__iter__" ⟨[(.ref N)],[]⟩),1,3,[(N,(fds "range" [(.int 0 (T + 2)),(.int s1 (T + 1)),(.int 1 (T + 3))]))],(N + 1),(T + 4)⟩ [12] (fun z2=>⟨(.ret (.ref (N + 1))),[(fds "range" [(.int 0 (T + 2)),(.int s1 (T + 1)),(.int 1 (T + 3))])],[((N + 1),(RI [(.int 0 0),(.int s1 0),(.int 1 0)]))],(N + 2),(T + 4)⟩) fun z2=>.ask {z:CW // GC z} ⟨(cs147 ceB aF aC (N + 3) (N + 1) (N + 2)),1,3,(lexL P X n tn S e B e1++[(aC,(cel (some (.ref X.a)))),((N + 1),(RI [(.int 0 0),(.int s1 0),(.int 1 0)])),(V.sp,(lst ws e3)),((N + 2),(lst [] 0)),((N + 3),(dob #[] 0))]),(N + 4),(T + 4)⟩ [0,1,2,3,4,5,6,7,8,9,13,11,14,15] (fun z3=>⟨.next,(lexO P X z3.1.q.n z3.1.q.tn z3.1.q.S z3.1.q.e z3.1.q.B z3.1.q.e1++[(cel (some (.ref X.a))),(RI [(.int z3.1.i 0),(.int 0 0),(.int 1 0)]),(lst ws e3),(lst z3.1.vs z3.1.ev),(dct P [(J12,z3.1.kk,(.int z3.1.j z3.1.t))] 1)]),[],z3.1.N,z3.1.T⟩) fun z3=>.fin (.ok (.done (.ret (.ref (N + 2))))) (lexL P X z3.1.q.n z3.1.q.tn z3.1.q.S z3.1.q.e z3.1.q.B z3.1.q.e1++[(aC,(cel (some (.ref X.a)))),(aF,(frW P V 16)),(V.sp,(lst ws e3)),(N,(fds "range" [(.int 0 (T + 2)),(.int s1 (T + 1)),(.int 1 (T + 3))])),((N + 1),(RI [(.int z3.1.i 0),(.int 0 0),(.int 1 0)])),((N + 2),(lst z3.1.vs z3.1.ev)),((N + 3),(dob #[] 2))]) z3.1.N z3.1.T):=fx 3 ⟨⟨()⟩,fun z1=>⟨()⟩,fun z1 z2=>⟨gc0⟩,fun z1 z2 z3=>trivial⟩ (by kernel_rfl)
theorem ri13 (a:Addr) (t0 t1 t2:Tok):Sg b P 10 [1,1,1] [] (.builtin "range.__iter__" ⟨[(.ref a)],[]⟩) [(a,(fds "range" [(.int 0 t0),(.int 13 t1),(.int 1 t2)]))] N T (.fin (.ok (.done (.ret (.ref N)))) [(a,(fds "range" [(.int 0 t0),(.int 13 t1),(.int 1 t2)])),(N,(RI [(.int 0 0),(.int 13 0),(.int 1 0)]))] (N + 1) T):=fx 0 trivial (by kernel_rfl)
theorem e19r (aF aC:Addr) (V:WV) (b1 b2 b3 b4:Addr) (f1 f2 f3 f4:Int) (u1 u2 u3 u4:Tok) (v2:List Value) (e2:Nat):Sx b P 30 [1,2,2,2,2,2,3,4,3,3] [0,0,0,1] (cd147 aF aC) (EV (rightE (testE (stW 19))) (env147 aF aC) >>= fun v=>pure (.done (.ret v))) [(aF,(frW P V 16)),(V.o2,(tup [(.int f2 u2),(.ref b2)] 0)),(b2,(lst v2 e2))] N T (.ask Unit ⟨(.builtin "list.__add__" ⟨[(.ref b2),(.ref N)],[]⟩),1,3,[(b2,(lst v2 e2)),(N,(lst [(.str J10 (T + 1))] 0))],(N + 1),(T + 2)⟩ [2,3] (fun z1=>⟨(.ret (.ref (N + 1))),[(lst v2 e2),(lst [(.str J10 (T + 1))] 0)],[((N + 1),(lst (v2++[.str J10 (T + 1)]) 0))],(N + 2),(T + 2)⟩) fun z1=>.fin (.ok (.done (.ret (.ref (N + 1))))) [(aF,(frW P V 16)),(V.o2,(tup [(.int f2 u2),(.ref b2)] 0)),(b2,(lst v2 e2)),(N,(lst [(.str J10 (T + 1))] 0)),((N + 1),(lst (v2++[.str J10 (T + 1)]) 0))] (N + 2) (T + 2)):=fx 1 ⟨⟨()⟩,fun z1=>trivial⟩ (by kernel_rfl)
theorem e20l (aF aC:Addr) (V:WV) (X Y:LX) (n m:Int) (tn tm:Tok):Sx b P 46 [2,3,0,0,0,3,0,0,0,3,3,0,4,1,5,0,0,0,5,0,0,0,5,5,0,6] [0,0] (cd147 aF aC) (EV (leftE (retE (stW 20))) (env147 aF aC) >>= fun v=>pure (.done (.ret v))) [(aF,(frm P [(J17,(V.k 0),(.ref V.sc)),(J22,(V.k 1),(.int V.tot (V.k 21))),(J3,(V.k 2),(.ref V.sp)),(J20,(V.k 3),(.str V.tx (V.k 23))),(J24,(V.k 4),(.int V.xv (V.k 24))),(J14,(V.k 5),(.str V.bx (V.k 25))),(J33,(V.k 6),(.ref V.td)),(J32,(V.k 7),(.ref Y.a)),(J35,(V.k 8),(.int V.sm (V.k 28))),(J42,(V.k 9),(.int V.wd (V.k 29))),(J5,(V.k 10),(.int V.sz (V.k 30))),(J48,(V.k 11),(.ref V.o1)),(J53,(V.k 12),(.ref V.o2)),(J49,(V.k 13),(.ref V.o3)),(J55,(V.k 14),(.ref V.o4)),((sg [100,117,101]),(V.k 15),(.ref V.du))] 16)),(aC,(cel (some (.ref X.a)))),(X.a,(ins (.ref 105) (some X.d))),(X.d,(lexD P X n tn)),(Y.a,(ins (.ref 105) (some Y.d))),(Y.d,(lexD P Y m tm))] N T (.fin (.ok (.done (.ret (.ref N)))) [(aF,(frm P [(J17,(V.k 0),(.ref V.sc)),(J22,(V.k 1),(.int V.tot (V.k 21))),(J3,(V.k 2),(.ref V.sp)),(J20,(V.k 3),(.str V.tx (V.k 23))),(J24,(V.k 4),(.int V.xv (V.k 24))),(J14,(V.k 5),(.str V.bx (V.k 25))),(J33,(V.k 6),(.ref V.td)),(J32,(V.k 7),(.ref Y.a)),(J35,(V.k 8),(.int V.sm (V.k 28))),(J42,(V.k 9),(.int V.wd (V.k 29))),(J5,(V.k 10),(.int V.sz (V.k 30))),(J48,(V.k 11),(.ref V.o1)),(J53,(V.k 12),(.ref V.o2)),(J49,(V.k 13),(.ref V.o3)),(J55,(V.k 14),(.ref V.o4)),((sg [100,117,101]),(V.k 15),(.ref V.du))] 16)),(aC,(cel (some (.ref X.a)))),(X.a,(ins (.ref 105) (some X.d))),(X.d,(lexD P X n tn)),(Y.a,(ins (.ref 105) (some Y.d))),(Y.d,(lexD P Y m tm)),(N,(lst [(.int n tn),(.int m tm)] 0))] (N + 1) (T + 2)):=fx 0 trivial (by kernel_rfl)
theorem e20r (aF aC:Addr) (V:WV) (c c1:Int):Sx b P 37 [1,2,2,2,2,2] [0,1,0,1,0,0,0,0] (cd147 aF aC) (EV (rightE (retE (stW 20))) (env147 aF aC) >>= fun v=>pure (.done (.ret v))) [(aF,(frW P V 16))] N T (.ask Unit ⟨(.builtin "str.count" ⟨[(.str V.tx (V.k 23)),(.str J31 T)],[]⟩),1,3,[],N,(T + 1)⟩ [] (fun z1=>⟨(.ret (.int c (T + 1))),[],[],N,(T + 2)⟩) fun z1=>.ask Unit ⟨(.builtin "int.__add__" ⟨[(.int c (T + 1)),(.int 1 (T + 2))],[]⟩),1,3,[],N,(T + 3)⟩ [] (fun z2=>⟨(.ret (.int c1 (T + 3))),[],[],N,(T + 4)⟩) fun z2=>.fin (.ok (.done (.ret (.ref (N + 1))))) [(aF,(frW P V 16)),(N,(lst [(.int c1 (T + 3))] 0)),((N + 1),(lst [(.int c1 (T + 3)),(.int c1 (T + 3))] 0))] (N + 2) (T + 5)):=fx 2 ⟨⟨()⟩,fun z1=>⟨()⟩,fun z1 z2=>trivial⟩ (by kernel_rfl)
end
end Mine
end
section
namespace Mine
section
open PySem.Builtin PySem.Builtin.Str
noncomputable def rHp (sm:Nat) (ws:List PySem.Str):List PySem.Str × Int:=match sm with
  | 1=>rH1 ws (sg [])
  | _=>rH2 ws (sg []) (sg [])
noncomputable def rRp (wd:Nat) (ws:List PySem.Str):List PySem.Str × Int:=match wd with
  | 2=>rR2 ws (sg []) (sg [])
  | _=>rR3 ws (sg []) (sg []) (sg [])
noncomputable def eqL (xs ys:List PySem.Str):Bool:=xs.map (·.cps.toList) == ys.map (·.cps.toList)
noncomputable def chkS (strip:List PySem.Str) (sm wd:Nat):Bool:=
  let w:=strip++List.replicate (sm + wd) (sg [])
  let r1:=rHp sm w
  let r2:=rRp wd r1.1
  let r3:=rRp wd w
  let r4:=rHp sm r3.1
  eqL r2.1 r4.1 && (joinS (sortW r2.1)).cps.toList == (joinS (sortW strip)).cps.toList && outOk sm strip [(sg [],0)] && outOk wd strip [(sg [],0)] &&
    mostF sm strip == r1.2 && mostF sm strip == r4.2 && mostF wd strip == r2.2 && mostF wd strip == r3.2 &&
    decide ((joinS (sortW strip)).length ≤ 1000) && !tooLong ((sortW r2.1).toArray.foldl (fun n s=>n + s.length + 0) 0) && !tooLong ((sortW strip).toArray.foldl (fun n s=>n + s.length + 0) 0)
noncomputable def first5:List (Nat × Bool):=[(1,false),(1,true),(3,false),(0,false),(2,true)]
noncomputable def textK (k:List (Nat × Bool)):PySem.Str:=k.foldl (fun t p=>catS t (sg (wrt p.1 p.2))) (sg [])
noncomputable def nlK (k:List (Nat × Bool)):Nat:=(k.filter fun p=>p.1 == 1).length
noncomputable def chkT (k:List (Nat × Bool)):Bool:=
  let t:=textK k
  (occurrences t (sg [10]) 0 t.length (t.length + 1)).length == nlK k
noncomputable def allS (sm wd:Nat):Bool:=chkS (first5.map fun p=>bx p.1) sm wd && (List.range 5).all fun a=>chkS ((first5++[(a,false)]).map fun p=>bx p.1) sm wd && (List.range 5).all fun c=>chkS ((first5++[(a,false),(c,false)]).map fun p=>bx p.1) sm wd
noncomputable def allT:Bool:=chkT first5 && (List.range 5).all fun a=>[false,true].all fun u=>chkT (first5++[(a,u)]) && (List.range 5).all fun c=>[false,true].all fun v=>chkT (first5++[(a,u),(c,v)])
end
end Mine
open Mine
end
section
namespace Mine
section
open PyProof PyProof.Rows
noncomputable def SX (vs:List Value) (cs:List Nat):Prop:=∃ ps:List (Nat × Tok),vs = ps.map (fun p=>.str (sg [p.1]) p.2) ∧ ps.map (·.1) = cs
theorem sx_ind:∀ (vs:List Value) (cs:List Nat),vs.length = cs.length → (∀ (j:Nat) (v:Value),vs[j]? = some v → ∃ (c:Nat) (u:Tok),cs[j]? = some c ∧ v = Value.str ⟨#[c]⟩ u) → SX vs cs
  | [],[],_,_=>⟨[],rfl,rfl⟩
  | [],_ :: _,h,_=>by cases h
  | _ :: _,[],h,_=>by cases h
  | v :: vs,c :: cs,h,hj=>by
    obtain ⟨c',u,h1,rfl⟩:=hj 0 v rfl
    obtain ⟨ps,rfl,h2⟩:=sx_ind vs cs (by simpa using h) (fun j v h=>by simpa using hj (j + 1) v (by simpa using h))
    cases h1
    exact ⟨(c,u) :: ps,rfl,by simp [h2]⟩
theorem sx_of {x:Str} {vs:List Value} (h:ItemsOf (SignAt x) ⟨vs⟩ x.cps.size):SX vs x.cps.toList:=by
  refine sx_ind vs x.cps.toList (by simpa using h.1) fun j v hv=>?_
  obtain ⟨c,u,h1,h2⟩:=h.2 j v (by simpa using hv)
  exact ⟨c,u,by simpa using h1,h2⟩
noncomputable def chrK (ks:List (Nat × Bool)):List Nat:=ks.flatMap fun p=>wrt p.1 p.2
noncomputable def WdOf (ks:List (Nat × Bool)) (S:List Value):Prop:=∃ ws:List Wd,ws.map (fun x=>(x.k,x.bare)) = ks ∧ txW ws = S
theorem inv1 {p:List (Nat × Tok)} {a:Nat} {cs:List Nat} (h:p.map (·.1) = a :: cs):∃ t q,p = (a,t) :: q ∧ q.map (·.1) = cs:=by
  cases p with
  | nil=>cases h
  | cons x q=>exact ⟨x.2,q,by rw [← (List.cons.inj h).1],(List.cons.inj h).2⟩
theorem inv0 {p:List (Nat × Tok)} (h:p.map (·.1) = []):p = []:=List.map_eq_nil_iff.mp h
noncomputable def cv (l:List (Nat × Tok)):List Value:=(l.map fun p=>.str (sg [p.1]) p.2).reverse
theorem sn2 {R:List Value} {b a:Value}:sn (sn R b) a = R++[b,a]:=by simp [sn]
theorem sn3 {R:List Value} {c b a:Value}:sn (sn (sn R c) b) a = R++[c,b,a]:=by simp [sn]
theorem sn4 {R:List Value} {d c b a:Value}:sn (sn (sn (sn R d) c) b) a = R++[d,c,b,a]:=by simp [sn]
theorem w2 {p:List (Nat × Tok)} {a b:Nat} (h:p.map (·.1) = [a,b]):∃ t0 t1 t2 t3:Tok,∀ R:List Value,sn (sn R (.str (sg [b]) t1)) (.str (sg [a]) t0) = R++cv p:=by
  obtain ⟨t0,q0,rfl,g0⟩:=inv1 h
  obtain ⟨t1,q1,rfl,g1⟩:=inv1 g0
  cases inv0 g1
  exact ⟨t0,t1,0,0,fun R=>sn2⟩
theorem w3 {p:List (Nat × Tok)} {a b c:Nat} (h:p.map (·.1) = [a,b,c]):∃ t0 t1 t2 t3:Tok,∀ R:List Value,sn (sn (sn R (.str (sg [c]) t2)) (.str (sg [b]) t1)) (.str (sg [a]) t0) = R++cv p:=by
  obtain ⟨t0,q0,rfl,g0⟩:=inv1 h
  obtain ⟨t1,q1,rfl,g1⟩:=inv1 g0
  obtain ⟨t2,q2,rfl,g2⟩:=inv1 g1
  cases inv0 g2
  exact ⟨t0,t1,t2,0,fun R=>sn3⟩
theorem w4 {p:List (Nat × Tok)} {a b c d:Nat} (h:p.map (·.1) = [a,b,c,d]):∃ t0 t1 t2 t3:Tok,∀ R:List Value,sn (sn (sn (sn R (.str (sg [d]) t3)) (.str (sg [c]) t2)) (.str (sg [b]) t1)) (.str (sg [a]) t0) = R++cv p:=by
  obtain ⟨t0,q0,rfl,g0⟩:=inv1 h
  obtain ⟨t1,q1,rfl,g1⟩:=inv1 g0
  obtain ⟨t2,q2,rfl,g2⟩:=inv1 g1
  obtain ⟨t3,q3,rfl,g3⟩:=inv1 g2
  cases inv0 g3
  exact ⟨t0,t1,t2,t3,fun R=>sn4⟩
theorem word1 {p:List (Nat × Tok)}:∀ {k:Nat} {b:Bool},k < 5 → p.map (·.1) = wrt k b → ∃ t0 t1 t2 t3,∀ R,chW k b t0 t1 t2 t3 R = R++cv p
  | 0,_,_,h=>w2 h
  | 1,true,_,h=>w3 h
  | 1,false,_,h=>w3 h
  | 2,true,_,h=>w3 h
  | 2,false,_,h=>w4 h
  | 3,true,_,h=>w3 h
  | 3,false,_,h=>w4 h
  | 4,true,_,h=>w3 h
  | 4,false,_,h=>w3 h
  | _ + 5,_,hk,_=>absurd hk (Nat.not_lt.mpr (Nat.le_add_left ..))
theorem words_of:∀ (ks:List (Nat × Bool)) (vs:List Value),(∀ p ∈ ks,p.1 < 5) → SX vs (chrK ks) → WdOf ks vs.reverse
  | [],vs,_,h=>by
    obtain ⟨ps,rfl,h2⟩:=h
    cases inv0 h2
    exact ⟨[],rfl,rfl⟩
  | (k,b) :: ks,vs,hk,h=>by
    obtain ⟨ps,rfl,h2⟩:=h
    obtain ⟨p1,p2,rfl,h1,h2⟩:=List.map_eq_append_iff.mp h2
    obtain ⟨ws,e1,e2⟩:=words_of ks _ (fun p hp=>hk p (.tail _ hp)) ⟨p2,rfl,h2⟩
    obtain ⟨t0,t1,t2,t3,hw⟩:=word1 (hk _ (.head _)) h1
    refine ⟨⟨k,b,t0,t1,t2,t3⟩ :: ws,by rw [List.map_cons,e1],?_⟩
    rw [List.map_append,List.reverse_append,← e2]
    exact hw _
theorem cat_chr:∀ (nums:List Int) (t:Str),(nums.foldl (fun t x=>catS t (wrI x)) t).cps.toList = t.cps.toList++chrK (nums.map fun x=>(kI5 x,bareI x))
  | [],t=>by simp [chrK]
  | x :: nums,t=>by
    rw [List.foldl_cons,cat_chr nums]
    simp [chrK,catS,wrI,sg]
noncomputable def ksI (nums:List Int):List (Nat × Bool):=nums.map fun x=>(kI5 x,bareI x)
theorem text_chr (nums:List Int):(textF nums).cps.toList = chrK (ksI nums):=by
  have:=cat_chr nums (sg [])
  simpa [textF,ksI,sg] using this
theorem ksI_lt (nums:List Int):∀ p ∈ ksI nums,p.1 < 5:=fun p hp=>by
  obtain ⟨x,_,rfl⟩:=List.mem_map.mp hp
  exact kI5_lt x
theorem wdOf_any (ks:List (Nat × Bool)):WdOf ks (txW (ks.map fun p=>⟨p.1,p.2,0,0,0,0⟩)):=⟨_,by simp [Function.comp_def],rfl⟩
noncomputable def GL1 (ks:List (Nat × Bool)) (z:LW):Prop:=z.n = 1 ∧ WdOf ks z.S ∧ codeHas (fds "code" z.X.cvs) qLam = true
noncomputable def GL2 (ks:List (Nat × Bool)) (c0 c1:Addr) (cv:List Value) (z:LW):Prop:=GL1 ks z ∧ z.X.cod0 = c0 ∧ z.X.cod = c1 ∧ z.X.cvs = cv
noncomputable def gl1 (ks:List (Nat × Bool)):{z:LW // GL1 ks z}:=⟨⟨lx1X 0 0 0,1,0,_,0,[],0,0⟩,rfl,wdOf_any ks,lxCv_has _ _⟩
noncomputable def gl2 (ks:List (Nat × Bool)) (c0 c1:Addr) (cv:List Value) (h:codeHas (fds "code" cv) qLam = true):{z:LW // GL2 ks c0 c1 cv z}:=⟨⟨lx2X c0 c1 cv 0 0 0,1,0,_,0,[],0,0⟩,⟨rfl,wdOf_any ks,h⟩,rfl,rfl,rfl⟩
section
variable {w:World} {b:Bool} (O:(cfg b w.params).Ok PG w)
include O
theorem con_lxA {N T:Nat} {nums:List Int} {x:Str} {t:Tok} (hx:x = textF nums) (hs:x.cps.size ≤ sizeLine) :
    CG w b 550 5500 (.call (.ref 116) ⟨[.str x t],[]⟩) [(111,tableObj ⟨[]⟩)] N T
      (fun z:{z:LW // GL1 (ksI nums) z}=>⟨.ret (.ref z.1.X.a),[tab2 z.1.X.cod0 z.1.X.cod],lexL w.params z.1.X z.1.n z.1.tn z.1.S z.1.e [] 0++[(z.1.X.cod0,fds "code" z.1.cv0)],z.1.N,z.1.T⟩):=by
  refine (con_lx1 O (t:=t) hs).conv ?_
  rintro ⟨⟨M,K,vs,e⟩,hz⟩
  have h1:=sx_of hz
  rw [hx,text_chr] at h1
  exact ⟨⟨⟨lx1X N M K,1,K + 17,vs.reverse,e,lxCv0 M K,M + 20,K + 27⟩,rfl,words_of _ _ (ksI_lt nums) h1,lxCv_has _ _⟩,rfl⟩
theorem con_lxB {N T:Nat} {nums:List Int} {x:Str} {t:Tok} {c0 c1:Addr} {cv0 cv1:List Value} (hx:x = textF nums) (hs:x.cps.size ≤ sizeLine) (hc:codeHas (fds "code" cv1) qLam = true) :
    CG w b 550 5500 (.call (.ref 116) ⟨[.str x t],[]⟩) [(111,tab2 c0 c1),(c0,fds "code" cv0),(c1,fds "code" cv1)] N T
      (fun z:{z:LW // GL2 (ksI nums) c0 c1 cv1 z}=>⟨.ret (.ref z.1.X.a),[tab2 c0 c1,fds "code" cv0,fds "code" cv1],(lexL w.params z.1.X z.1.n z.1.tn z.1.S z.1.e [] 0).eraseIdx 7,z.1.N,z.1.T⟩):=by
  refine (con_lx2 O (t:=t) hs).conv ?_
  rintro ⟨⟨M,K,vs,e⟩,hz⟩
  have h1:=sx_of hz
  rw [hx,text_chr] at h1
  exact ⟨⟨⟨lx2X c0 c1 cv1 N M K,1,K + 5,vs.reverse,e,[],M + 8,K + 15⟩,⟨rfl,words_of _ _ (ksI_lt nums) h1,hc⟩,rfl,rfl,rfl⟩,rfl⟩
end
end
section
open PySem.Builtin PySem.Builtin.Str
theorem plain_count:plainId "str.count" = true:=by decide +kernel
theorem conCount {w:World} {C:Cf} {prog:Program} {d u:Nat} {N T:Nat} {x y:PySem.Str} {t k:Tok} {n:Int} (hn:(((occurrences x y 0 x.length (x.length + 1)).length:Nat):Int) = n) :
    Con prog w C d u (.builtin "str.count" ⟨[.str x t,.str y k],[]⟩) [] N T (fun _:Unit=>⟨.ret (.int n T),[],[],N,T + 1⟩):=by
  refine con_meets F.entry_str_count plain_count (gives_str_count x y t k).meets ?_
  intro A s hz hh nd hN hT
  subst hN hT hn
  exact ⟨(),rfl,aft_tok (k:=1) hh⟩
end
section
variable {w:World} {b:Bool} (O:(cfg b w.params).Ok PG w)
include O
theorem conRI3 {d u N T:Nat} {a:Addr} {t0 t1 t2:Tok} {sz:Int} (h:sz = 9 ∨ sz = 10 ∨ sz = 11 ∨ sz = 12 ∨ sz = 13) :
    CG w b d u (.builtin "range.__iter__" ⟨[.ref a],[]⟩) [(a,fds "range" [.int 0 t0,.int sz t1,.int 1 t2])] N T
      (fun _:Unit=>⟨.ret (.ref N),[fds "range" [.int 0 t0,.int sz t1,.int 1 t2]],[(N,fds "range_iterator" [.int 0 0,.int sz 0,.int 1 0])],N + 1,T⟩):=by
  by_cases h13:sz = 13
  · subst h13
    exact con_runN O [0] (ri13 b w.params N T a t0 t1 t2) rfl (rest:=[(N,fds "range_iterator" [.int 0 0,.int 13 0,.int 1 0])]) rfl rfl rfl rfl (by decide) rfl
  · exact conRI O (.inr (h.imp_right (Or.imp_right (Or.imp_right fun z=>z.resolve_right h13))))
theorem con_rH {X:LX} {sz sm:Int} {ws:List Str} {q:LS} {n':Int} {ts tr:Tok} {N T:Nat} (hm:sm = 1 ∨ sm = 2) (hsz:sz = ws.length) (h8:sz = 8 ∨ sz = 9 ∨ sz = 10 ∨ sz = 11 ∨ sz = 12) (hy:Yields w b X (Fd n') ws q) :
    CG w b 540 5400 (.call (.ref 130) ⟨[.ref X.a,.int sz ts,.int sm tr],[]⟩) (lexL w.params X q.n q.tn q.S q.e q.B q.e1) N T
      (fun z:{z:HC // HCok n' (rHp sm.toNat ws) z}=>⟨.ret (.ref z.1.tu),lexO w.params X z.1.q.n z.1.q.tn z.1.q.S z.1.q.e z.1.q.B z.1.q.e1,[(z.1.lb,lst z.1.bs z.1.e2),(z.1.tu,tup [.int z.1.f z.1.tf,.ref z.1.lb] 0)],z.1.N,z.1.T⟩):=by
  rcases hm with rfl | rfl
  · exact con_h1 O hsz h8 hy
  · exact con_h2 O hsz h8 hy
theorem con_rR {X:LX} {sz wd:Int} {ws:List Str} {q:LS} {n':Int} {ts tr:Tok} {N T:Nat} (hm:wd = 2 ∨ wd = 3) (hsz:sz = ws.length) (h8:sz = 8 ∨ sz = 9 ∨ sz = 10 ∨ sz = 11 ∨ sz = 12) (hy:Yields w b X (Fd n') ws q) :
    CG w b 540 5400 (.call (.ref 137) ⟨[.ref X.a,.int sz ts,.int wd tr],[]⟩) (lexL w.params X q.n q.tn q.S q.e q.B q.e1) N T
      (fun z:{z:HC // HCok n' (rRp wd.toNat ws) z}=>⟨.ret (.ref z.1.tu),lexO w.params X z.1.q.n z.1.q.tn z.1.q.S z.1.q.e z.1.q.B z.1.q.e1,[(z.1.lb,lst z.1.bs z.1.e2),(z.1.tu,tup [.int z.1.f z.1.tf,.ref z.1.lb] 0)],z.1.N,z.1.T⟩):=by
  rcases hm with rfl | rfl
  · exact con_r2 O hsz h8 hy
  · exact con_r3 O hsz h8 hy
theorem con_ms {sm:Int} {ls:Addr} {tr:Tok} {vs:List Value} {xs:List Str} {e2 N T:Nat} {m:Int} (hm:sm = 1 ∨ sm = 2 ∨ sm = 3) (hx:TX vs xs) (h0:xs ≠ []) (hok:outOk sm.toNat xs [(sg [],0)] = true) (hw:mostF sm.toNat xs = m) :
    CG w b 540 5400 (.call (.ref 142) ⟨[.ref ls,.int sm tr],[]⟩) [(ls,lst vs e2)] N T (fun z:Nat × Nat × Tok=>⟨.ret (.int m z.2.2),[lst vs e2],[],z.1,z.2.1⟩):=by
  rcases hm with rfl | rfl | rfl
  · exact con_most1 O hx h0 hok hw
  · exact con_most2 O hx h0 hok hw
  · exact con_most3 O hx h0 hok hw
theorem loop_wp {aF aC io:Addr} {V:WV} {X:LX} {n:Int} {tn:Tok} {S us:List Value} {e e2:Nat} {A:Around} {R:Result → Shared → Prop} {S':List Addr} {h₀:Heap} {g:Array GenState} {d:Drawn} {os:OsState}
    (hz:A.handled = none) (hd:A.depth ≤ 550) (hu:A.units ≤ 5500) (xs:List Str) (hus:TX us xs)
    (hend:∀ i bx' k e1 h N T,Rep (cfg b w.params) S' h₀ (lexL w.params X n tn S e us e1++[(aF,frW w.params { V with bx:=bx',k:=k } 7),(aC,cel (some (.ref X.a))),(io,fds "list_iterator" [.none,.int i 0]),(V.td,lst us e2)]) h → (∀ i,i < 22 → k i = V.k i) → (k 23 = V.k 23) → h.objs.size = N → R (.ok .next) ⟨h,g,d,T,os⟩) :
    ∀ (rest:List Str) (ii:Nat) (i:Int) (bx':Str) (k:Nat → Tok) (B:List Value) (e1:Nat) (h:Heap) (N T:Nat),i = ii → xs.length = ii + rest.length → B = us.take ii → ii + rest.length ≤ 900 → (∀ i,i < 22 → k i = V.k i) → (k 23 = V.k 23) →
      Rep (cfg b w.params) S' h₀ (lexL w.params X n tn S e B e1++[(aF,frW w.params { V with bx:=bx',k:=k } 7),(aC,cel (some (.ref X.a))),(io,fds "list_iterator" [.ref V.td,.int i 0]),(V.td,lst us e2)]) h → h.objs.size = N →
      codeAny (model PG w) A (fl147B aF aC io) R ⟨h,g,d,T,os⟩
  | [],ii,i,bx',k,B,e1,h,N,T,hi,hl,hB,h9,hk,hk3,D,hN=>by
    have hv:us[ii]? = none:=by
      rw [List.getElem?_eq_none_iff,hus.len,hl]; simp
    have hB':B = us:=by
      rw [hB]; apply List.take_of_length_le; rw [hus.len,hl]; simp
    subst hB'
    refine code_run O hz (wpz b w.params N T aF aC { V with bx:=bx',k:=k } X io n i tn 0 S B B bx' e e1 e2) D hN (HHx 1 ⟨⟨by decide,conLItE O hi hv⟩,fun _=>trivial,fun _=>?_⟩)
    intro h' D' hN' hq
    refine ⟨hq,block_nil (hend i bx' k e1 h' _ _ (Rep.sub D') hk hk3 hN')⟩
  | y :: rest,ii,i,bx',k,B,e1,h,N,T,hi,hl,hB,h9,hk,hk3,D,hN=>by
    obtain ⟨ps,hp1,hp2⟩:=id hus
    have hlt:ii < ps.length:=by
      have:=congrArg List.length hp2
      simp at this hl; omega
    have hv:us[ii]? = some (.str ps[ii].1 ps[ii].2):=by rw [hp1,List.getElem?_map,List.getElem?_eq_getElem hlt]; rfl
    have hBl:B.length < 1000:=by rw [hB]; simp; simp at h9; omega
    refine code_run O hz (wp1 b w.params N T aF aC { V with bx:=bx',k:=k } X io n i tn ps[ii].2 S B us ps[ii].1 e e1 e2) D hN
      (HHx 2 ⟨⟨by decide,conLIt hi hv⟩,fun _=>⟨by decide,(con_pt O hBl).mono (Mine.bd hd rfl) (Mine.bd hu rfl)⟩,fun _ _=>trivial,fun _ z2=>?_⟩)
    intro h' D' hN' hq
    refine ⟨hq,?_⟩
    refine loop_wp hz hd hu xs hus hend rest (ii + 1) (i + 1) ps[ii].1 (kW k 25 ps[ii].2) (sn B (.str ps[ii].1 ps[ii].2)) (e1 + 1) h' _ _ (by rw [hi]; rfl) (by simp at hl ⊢; omega) ?_ (by simp at h9 ⊢; omega) ?_ ?_ D' hN'
    · rw [hB,sn,List.take_add_one,hv]; rfl
    · intro j hj
      have:Nat.beq j 25 = false:=Bool.eq_false_iff.mpr fun q=>by have:=Nat.eq_of_beq_eq_true q; omega
      show (match Nat.beq j 25 with | true=>_ | false=>k j) = _
      rw [this]; exact hk j hj
    · exact hk3
end
end Mine
end
section
namespace Mine
section
open PyProof.Rows
variable {w:World} {b:Bool} (O:(cfg b w.params).Ok PG w)
theorem scon_of {prog:Program} {w:World} {C:Cf} (O:C.Ok prog w) {n:Nat} {F:Fam} {mem ctl:List Nat} {c:Code} {l:List Stmt} {env:Env} {rd:Led} {N T d u:Nat} {Z:Type} {o:Z → Pst}
    (hF:F.Fits fun os=>run C n mem ctl os c .base (EX l env >>= fun f=>pure (.done f)) rd N T [] [] [] [])
    (H:∀ (A:Around) (s:Shared),A.handled = none → A.depth ≤ d → A.units ≤ u → s.heap.objs.size = N → F.Holds prog w C A ⟨fun fin s'=>match fin with | .done f=>∃ z,(.ok f:Result) = (o z).f.res ∧ Aft s s' rd (o z) | .again _=>False,fun _ _=>False⟩ (rd.map (·.1)) s.heap s.gens s.drawn s.os) :
    SCon prog w C d u c (execs l env) rd N T o:=by
  intro A s hz hd hu ht hh nd off hN hT
  have D:=rep_start ht hh nd off
  have H':=H A s hz hd hu hN
  obtain ⟨h,g,dr,tk,os⟩:=s
  have hT2:tk = T:=hT
  subst hT2
  exact own_EX O hz hF D hN H'
noncomputable def numsOf (ns:List Int):List Int:=[1,6,3,0,7]++ns.take 2
theorem numV_ix {T:Nat} {vs:List Value} {ns:List Int} (h:IX vs ns):IX (numV T vs) (numsOf ns):=by
  obtain ⟨ps,rfl,h2⟩:=h
  refine ⟨[(1,T + 4),(6,T + 5),(3,T + 6),(0,T + 7),(7,T + 8)]++ps.take 2,?_,?_⟩
  · simp [numV,List.map_take]
  · simp [numsOf,← h2,List.map_take]
theorem numsOf_len (ns:List Int):(numsOf ns).length ≤ 7:=by simp [numsOf]; omega
noncomputable def gfp (nums:List Int):{z:WF // GFp nums z}:=⟨⟨fun _=>0,textF nums,0,sg [],nums.map fun x=>.str (bxI x) 0,0,0,0,0⟩,⟨nums.map fun x=>(bxI x,0),by simp,by simp [Function.comp_def]⟩,rfl⟩
noncomputable def gw (F:LS → Prop) (q:LS) (h:F q) (words:List Str):{z:CW // GW F words z}:=⟨⟨q,0,0,words.map fun x=>.str x 0,0,0,sg [],0,0,0⟩,h,⟨words.map fun x=>(x,0),by simp,by simp [Function.comp_def]⟩⟩
noncomputable def gh (n:Int) (r:List Str × Int):{z:HC // HCok n r z}:=⟨⟨⟨n,0,[],0,r.1.map fun x=>.str x 0,0⟩,0,0,r.1.map fun x=>.str x 0,0,r.2,0,0,0⟩,rfl,rfl,rfl,⟨r.1.map fun x=>(x,0),by simp,by simp [Function.comp_def]⟩,rfl⟩
include O
theorem sc_w1 {N T:Nat} {aF aC sc:Addr} {k0:Tok} {vs:List Value} {ns:List Int} {e:Nat} (hvs:IX vs ns) (hN:N = aC + 1) (hl:vs.length ≤ sizeLine) :
    SCon PG w (cfg b w.params) 530 5300 (cd147 aF aC) (execs (lawS 0 4) (env147 aF aC)) [(sc,lst vs e),(aF,frm w.params [((sg [115,99,114,105,112,116]),k0,(.ref sc))] 1),(aC,cel none)] N T
      (fun z:{z:Addr × WF // GFp (numsOf ns) z.2}=>⟨.next,[lst vs e,frW6 w.params sc z.1.1 z.1.2.k ns.sum z.1.2.tx z.1.2.xv z.1.2.bx,cel none],[(z.1.1,lst z.1.2.sv z.1.2.se)],z.1.2.N,z.1.2.T⟩):=by
  have hnl:=numsOf_len ns
  have hs:sizeLine = 16777216:=by decide
  refine scon_of O (w1 b w.params N T aF aC sc k0 ns.sum vs e (GFp (numsOf ns)) (gfp _)) fun A s hz hd hu hNs=>?_
  refine HHx 4 ⟨⟨by decide,conSum O hvs hN⟩,fun z1=>⟨by decide,conSlice hl⟩,fun z1 z2=>⟨by decide,conLAdd (by simp; omega)⟩,fun z1 z2 z3=>⟨by decide,(con_wf O (numV_ix hvs) (by simp [numsOf]) (by omega)).mono (Mine.bd hd rfl) (Mine.bd hu rfl)⟩,fun _ _ _ _=>trivial,fun z1 z2 z3 z4=>?_⟩
  intro h' D' hN'
  exact ⟨⟨(z1.1,z4.1),z4.2⟩,rfl,aft_ix (q:=⟨.next,[lst vs e,frW6 w.params sc z1.1 z4.1.k ns.sum z4.1.tx z4.1.xv z4.1.bx,cel none],[(z1.1,lst z4.1.sv z4.1.se)],z4.1.N,z4.1.T⟩) D' rfl hN' rfl [0] (by decide) rfl⟩
theorem sc_s4 {N T:Nat} {aF aC:Addr} {V:WV} {nums:List Int} (ht:V.tx = textF nums) (hs:V.tx.cps.size ≤ sizeLine) :
    SCon PG w (cfg b w.params) 530 5300 (cd147 aF aC) (execs (lawS 4 1) (env147 aF aC)) [(111,tableObj ⟨[]⟩),(aF,frW w.params V 6),(aC,cel none)] N T
      (fun z:{z:LW // GL1 (ksI nums) z}=>⟨.next,[tab2 z.1.X.cod0 z.1.X.cod,frW w.params V 6,cel (some (.ref z.1.X.a))],lexL w.params z.1.X z.1.n z.1.tn z.1.S z.1.e [] 0++[(z.1.X.cod0,fds "code" z.1.cv0)],z.1.N,z.1.T⟩):=by
  refine scon_of O (s4 b w.params N T aF aC V (GL1 (ksI nums)) (gl1 _)) fun A s hz hd hu hNs=>?_
  refine HHx 1 ⟨⟨by decide,(con_lxA O ht hs).mono (Mine.bd hd rfl) (Mine.bd hu rfl)⟩,fun _=>trivial,fun z=>?_⟩
  intro h' D' hN'
  exact ⟨z,rfl,aft_ix (q:=⟨.next,[tab2 z.1.X.cod0 z.1.X.cod,frW w.params V 6,cel (some (.ref z.1.X.a))],lexL w.params z.1.X z.1.n z.1.tn z.1.S z.1.e [] 0++[(z.1.X.cod0,fds "code" z.1.cv0)],z.1.N,z.1.T⟩) D' rfl hN' rfl [0,1,2,3,4,5,6,7,8,9] (by decide) rfl⟩
theorem sc_s5 {N T:Nat} {aF aC:Addr} {V:WV} {X:LX} {F:LS → Prop} {q:LS} {words:List Str} {ws:List Value} {e3:Nat} (q0:LS) (hq0:F q0) (us:List Str) (hus:TX ws us) (hlen:us.length = words.length) (h0:words ≠ []) (hl:words.length ≤ 100) (hy:Yields w b X F words q) :
    SCon PG w (cfg b w.params) 530 5300 (cd147 aF aC) (execs (lawS 5 1) (env147 aF aC)) (lexL w.params X q.n q.tn q.S q.e q.B q.e1++[(aC,cel (some (.ref X.a))),(aF,frW w.params V 6),(V.sp,lst ws e3)]) N T
      (fun z:{z:CW // GW F words z}=>⟨.next,lexO w.params X z.1.q.n z.1.q.tn z.1.q.S z.1.q.e z.1.q.B z.1.q.e1++[cel (some (.ref X.a)),frW w.params { V with td:=N + 1,k:=kW V.k 6 z.1.T } 7,lst ws e3],[(N + 1,lst z.1.vs z.1.ev)],z.1.N,z.1.T + 1⟩):=by
  refine scon_of O (s5 b w.params N T aF aC V X q.n q.tn q.S q.B ws q.e q.e1 e3 (GW F words) (gw F q0 hq0 words)) fun A s hz hd hu hNs=>?_
  refine HHx 1 ⟨⟨by decide,(con_cA O us hus hlen h0 hl hy).mono (Mine.bd hd rfl) (Mine.bd hu rfl)⟩,fun _=>trivial,fun z=>?_⟩
  intro h' D' hN'
  exact ⟨z,rfl,aft_ix (q:=⟨.next,lexO w.params X z.1.q.n z.1.q.tn z.1.q.S z.1.q.e z.1.q.B z.1.q.e1++[cel (some (.ref X.a)),frW w.params { V with td:=N + 1,k:=kW V.k 6 z.1.T } 7,lst ws e3],[(N + 1,lst z.1.vs z.1.ev)],z.1.N,z.1.T + 1⟩) D' rfl hN' rfl [1] (by decide) rfl⟩
end
end Mine
end
section
namespace Mine
section
open PyProof.Rows
variable {w:World} {b:Bool} (O:(cfg b w.params).Ok PG w)
include O
noncomputable def GPb (us:List Value) (z:PW):Prop:=z.B = us
noncomputable def gpb (us:List Value):{z:PW // GPb us z}:=⟨⟨us,0,0,sg [],fun _=>0,0,0⟩,rfl⟩
theorem con_wp {N T:Nat} {aF aC io:Addr} {V:WV} {X:LX} {n:Int} {tn:Tok} {S us:List Value} {e e1 e2:Nat} (xs:List Str) (hus:TX us xs) (hl:xs.length ≤ 100) :
    CG w b 550 5500 (fl147B aF aC io) (lexL w.params X n tn S e [] e1++[(aF,frW w.params V 7),(aC,cel (some (.ref X.a))),(io,fds "list_iterator" [.ref V.td,.int 0 0]),(V.td,lst us e2)]) N T
      (fun z:{z:PW // GPb us z}=>⟨.next,lexO w.params X n tn S e z.1.B z.1.e1++[frW w.params { V with bx:=z.1.bx,k:=z.1.k } 7,cel (some (.ref X.a)),fds "list_iterator" [.none,.int z.1.i 0],lst us e2],[],z.1.N,z.1.T⟩):=by
  refine coni fun A h g dr os G hz hd hu D hN hG=>?_
  refine hG ?_
  refine loop_wp (V:=V) O hz hd hu xs hus ?_ xs 0 0 V.bx V.k [] e1 h N T rfl (by simp) rfl (by omega) (fun _ _=>rfl) rfl D hN
  intro i bx' k e1' h2 N2 T2 D2 _ _ hN2
  exact ⟨⟨⟨us,e1',i,bx',k,N2,T2⟩,rfl⟩,rfl,aft_plain (q:=⟨.next,lexO w.params X n tn S e us e1'++[frW w.params { V with bx:=bx',k:=k } 7,cel (some (.ref X.a)),fds "list_iterator" [.none,.int i 0],lst us e2],[],N2,T2⟩) D2 rfl hN2 rfl⟩
theorem sc_s7 {N T:Nat} {aF aC:Addr} {V:WV} {X:LX} {n:Int} {tn:Tok} {S us:List Value} {e e1 e2:Nat} (xs:List Str) (hus:TX us xs) (hl:xs.length ≤ 100) :
    SCon PG w (cfg b w.params) 530 5300 (cd147 aF aC) (execs (lawS 7 1) (env147 aF aC)) (lexL w.params X n tn S e [] e1++[(aF,frW w.params V 7),(aC,cel (some (.ref X.a))),(V.td,lst us e2)]) N T
      (fun z:{z:PW // GPb us z}=>⟨.next,lexO w.params X n tn S e us z.1.e1++[frW w.params { V with bx:=z.1.bx,k:=z.1.k } 7,cel (some (.ref X.a)),lst us e2],[],z.1.N,z.1.T⟩):=by
  refine scon_of O (s7 b w.params N T aF aC V X n tn S [] us e e1 e2 (GPb us) (gpb us)) fun A s hz hd hu hNs=>?_
  refine HHx 1 ⟨⟨by decide,(con_wp O xs hus hl).mono (Mine.bd hd rfl) (Mine.bd hu rfl)⟩,fun _=>trivial,fun z=>?_⟩
  obtain ⟨⟨B,pe,i,bx',k,N2,T2⟩,rfl⟩:=z
  intro h' D' hN'
  exact ⟨⟨⟨B,pe,i,bx',k,N2,T2⟩,rfl⟩,rfl,aft_plain (q:=⟨.next,lexO w.params X n tn S e B pe++[frW w.params { V with bx:=bx',k:=k } 7,cel (some (.ref X.a)),lst B e2],[],N2,T2⟩) D' rfl hN' rfl⟩
theorem sc_s8 {N T:Nat} {aF aC:Addr} {V:WV} {nums:List Int} {c0 c1:Addr} {cv0 cv1:List Value} (ht:V.tx = textF nums) (hs:V.tx.cps.size ≤ sizeLine) (hc:codeHas (fds "code" cv1) qLam = true) :
    SCon PG w (cfg b w.params) 530 5300 (cd147 aF aC) (execs (lawS 8 1) (env147 aF aC)) [(111,tab2 c0 c1),(c0,fds "code" cv0),(c1,fds "code" cv1),(aF,frW w.params V 7)] N T
      (fun z:{z:LW // GL2 (ksI nums) c0 c1 cv1 z}=>⟨.next,[tab2 c0 c1,fds "code" cv0,fds "code" cv1,frW w.params { V with oth:=z.1.X.a,k:=kW V.k 7 z.1.T } 8],(lexL w.params z.1.X z.1.n z.1.tn z.1.S z.1.e [] 0).eraseIdx 7,z.1.N,z.1.T + 1⟩):=by
  refine scon_of O (s8 b w.params N T aF aC V c0 c1 cv0 cv1 (GL2 (ksI nums) c0 c1 cv1) (gl2 _ _ _ _ hc)) fun A s hz hd hu hNs=>?_
  refine HHx 1 ⟨⟨by decide,(con_lxB O ht hs hc).mono (Mine.bd hd rfl) (Mine.bd hu rfl)⟩,fun _=>trivial,fun z=>?_⟩
  intro h' D' hN'
  exact ⟨z,rfl,aft_ix (q:=⟨.next,[tab2 c0 c1,fds "code" cv0,fds "code" cv1,frW w.params { V with oth:=z.1.X.a,k:=kW V.k 7 z.1.T } 8],(lexL w.params z.1.X z.1.n z.1.tn z.1.S z.1.e [] 0).eraseIdx 7,z.1.N,z.1.T + 1⟩) D' rfl hN' rfl [0,1,2,3,4,5,6,7] (by decide) rfl⟩
noncomputable def k9 (k:Nat → Tok) (T:Nat):Nat → Tok:=kW (kW (kW (kW (kW (kW k 8 (T + 6)) 28 (T + 5)) 9 (T + 15)) 29 (T + 14)) 10 (T + 20)) 30 (T + 19)
theorem sc_s9 {N T:Nat} {aF aC:Addr} {V:WV} {ws:List Value} {e3:Nat} (hl:ws.length ≤ 100) (h1:1 + (V.tot + 1).fmod 2 = V.sm) (h2:2 + (V.tot.fdiv 2 + 1).fmod 2 = V.wd) (h3:(ws.length:Int) + V.sm + V.wd = V.sz) :
    SCon PG w (cfg b w.params) 530 5300 (cd147 aF aC) (execs (lawS 9 3) (env147 aF aC)) [(aF,frW w.params V 8),(V.sp,lst ws e3)] N T
      (fun _:Unit=>⟨.next,[frW w.params { V with k:=k9 V.k T } 11,lst ws e3],[],N,T + 21⟩):=by
  have hs:sizeLine = 16777216:=by decide
  refine scon_of O (s9 b w.params N T aF aC V ws e3 (V.tot + 1) ((V.tot + 1).fmod 2) (V.tot.fdiv 2) (V.tot.fdiv 2 + 1) ((V.tot.fdiv 2 + 1).fmod 2) ws.length (ws.length + V.sm)) fun A s hz hd hu hNs=>?_
  refine HHx 10 ⟨⟨by decide,conIAdd O rfl⟩,fun _=>⟨by decide,conIMod (by decide) rfl⟩,fun _ _=>⟨by decide,conIAdd O h1⟩,fun _ _ _=>⟨by decide,conIFd (.inr rfl) rfl⟩,fun _ _ _ _=>⟨by decide,conIAdd O rfl⟩,fun _ _ _ _ _=>⟨by decide,conIMod (by decide) rfl⟩,fun _ _ _ _ _ _=>⟨by decide,conIAdd O h2⟩,fun _ _ _ _ _ _ _=>⟨by decide,conLenB rfl (by omega)⟩,fun _ _ _ _ _ _ _ _=>⟨by decide,conIAdd O rfl⟩,fun _ _ _ _ _ _ _ _ _=>⟨by decide,conIAdd O h3⟩,fun _ _ _ _ _ _ _ _ _ _=>trivial,fun _ _ _ _ _ _ _ _ _ _=>?_⟩
  intro h' D' hN'
  exact ⟨(),rfl,aft_plain (q:=⟨.next,[frW w.params { V with k:=k9 V.k T } 11,lst ws e3],[],N,T + 21⟩) D' rfl hN' rfl⟩
theorem sc_s12 {N T:Nat} {aF aC:Addr} {V:WV} {X:LX} {q:LS} {n':Int} {ws:List Str} (hm:V.sm = 1 ∨ V.sm = 2) (hsz:V.sz = ws.length) (h8:V.sz = 8 ∨ V.sz = 9 ∨ V.sz = 10 ∨ V.sz = 11 ∨ V.sz = 12) (hy:Yields w b X (Fd n') ws q) :
    SCon PG w (cfg b w.params) 530 5300 (cd147 aF aC) (execs (lawS 12 1) (env147 aF aC)) (lexL w.params X q.n q.tn q.S q.e q.B q.e1++[(aC,cel (some (.ref X.a))),(aF,frW w.params V 11)]) N T
      (fun z:{z:HC // HCok n' (rHp V.sm.toNat ws) z}=>⟨.next,lexO w.params X z.1.q.n z.1.q.tn z.1.q.S z.1.q.e z.1.q.B z.1.q.e1++[cel (some (.ref X.a)),frW w.params { V with o1:=z.1.tu,k:=kW V.k 11 z.1.T } 12],[(z.1.lb,lst z.1.bs z.1.e2),(z.1.tu,tup [.int z.1.f z.1.tf,.ref z.1.lb] 0)],z.1.N,z.1.T + 1⟩):=by
  refine scon_of O (s12 b w.params N T aF aC V X q.n q.tn q.S q.B q.e q.e1 (HCok n' (rHp V.sm.toNat ws)) (gh _ _)) fun A s hz hd hu hNs=>?_
  refine HHx 1 ⟨⟨by decide,(con_rH O hm hsz h8 hy).mono (Mine.bd hd rfl) (Mine.bd hu rfl)⟩,fun _=>trivial,fun z=>?_⟩
  intro h' D' hN'
  exact ⟨z,rfl,aft_ix (q:=⟨.next,lexO w.params X z.1.q.n z.1.q.tn z.1.q.S z.1.q.e z.1.q.B z.1.q.e1++[cel (some (.ref X.a)),frW w.params { V with o1:=z.1.tu,k:=kW V.k 11 z.1.T } 12],[(z.1.lb,lst z.1.bs z.1.e2),(z.1.tu,tup [.int z.1.f z.1.tf,.ref z.1.lb] 0)],z.1.N,z.1.T + 1⟩) D' rfl hN' rfl [0,1] (by decide) rfl⟩
theorem sc_s13 {N T:Nat} {aF aC:Addr} {V:WV} {X:LX} {q:LS} {n':Int} {ws:List Str} (hm:V.wd = 2 ∨ V.wd = 3) (hsz:V.sz = ws.length) (h8:V.sz = 8 ∨ V.sz = 9 ∨ V.sz = 10 ∨ V.sz = 11 ∨ V.sz = 12) (hy:Yields w b X (Fd n') ws q) :
    SCon PG w (cfg b w.params) 530 5300 (cd147 aF aC) (execs (lawS 13 1) (env147 aF aC)) (lexL w.params X q.n q.tn q.S q.e q.B q.e1++[(aC,cel (some (.ref X.a))),(aF,frW w.params V 12)]) N T
      (fun z:{z:HC // HCok n' (rRp V.wd.toNat ws) z}=>⟨.next,lexO w.params X z.1.q.n z.1.q.tn z.1.q.S z.1.q.e z.1.q.B z.1.q.e1++[cel (some (.ref X.a)),frW w.params { V with o2:=z.1.tu,k:=kW V.k 12 z.1.T } 13],[(z.1.lb,lst z.1.bs z.1.e2),(z.1.tu,tup [.int z.1.f z.1.tf,.ref z.1.lb] 0)],z.1.N,z.1.T + 1⟩):=by
  refine scon_of O (s13 b w.params N T aF aC V X q.n q.tn q.S q.B q.e q.e1 (HCok n' (rRp V.wd.toNat ws)) (gh _ _)) fun A s hz hd hu hNs=>?_
  refine HHx 1 ⟨⟨by decide,(con_rR O hm hsz h8 hy).mono (Mine.bd hd rfl) (Mine.bd hu rfl)⟩,fun _=>trivial,fun z=>?_⟩
  intro h' D' hN'
  exact ⟨z,rfl,aft_ix (q:=⟨.next,lexO w.params X z.1.q.n z.1.q.tn z.1.q.S z.1.q.e z.1.q.B z.1.q.e1++[cel (some (.ref X.a)),frW w.params { V with o2:=z.1.tu,k:=kW V.k 12 z.1.T } 13],[(z.1.lb,lst z.1.bs z.1.e2),(z.1.tu,tup [.int z.1.f z.1.tf,.ref z.1.lb] 0)],z.1.N,z.1.T + 1⟩) D' rfl hN' rfl [0,1] (by decide) rfl⟩
theorem sc_s14 {N T:Nat} {aF aC:Addr} {V:WV} {X:LX} {q:LS} {n':Int} {ws:List Str} (ho:V.oth = X.a) (hm:V.wd = 2 ∨ V.wd = 3) (hsz:V.sz = ws.length) (h8:V.sz = 8 ∨ V.sz = 9 ∨ V.sz = 10 ∨ V.sz = 11 ∨ V.sz = 12) (hy:Yields w b X (Fd n') ws q) :
    SCon PG w (cfg b w.params) 530 5300 (cd147 aF aC) (execs (lawS 14 1) (env147 aF aC)) (lexL w.params X q.n q.tn q.S q.e q.B q.e1++[(aF,frW w.params V 13)]) N T
      (fun z:{z:HC // HCok n' (rRp V.wd.toNat ws) z}=>⟨.next,lexO w.params X z.1.q.n z.1.q.tn z.1.q.S z.1.q.e z.1.q.B z.1.q.e1++[frW w.params { V with o3:=z.1.tu,k:=kW V.k 13 z.1.T } 14],[(z.1.lb,lst z.1.bs z.1.e2),(z.1.tu,tup [.int z.1.f z.1.tf,.ref z.1.lb] 0)],z.1.N,z.1.T + 1⟩):=by
  obtain ⟨sc,tot,sp,tx,xv,bx0,td,oth,sm,wd,sz,o1,o2,o3,o4,du,k⟩:=V
  subst ho
  refine scon_of O (s14 b w.params N T aF aC ⟨sc,tot,sp,tx,xv,bx0,td,X.a,sm,wd,sz,o1,o2,o3,o4,du,k⟩ X q.n q.tn q.S q.B q.e q.e1 (HCok n' (rRp wd.toNat ws)) (gh _ _)) fun A s hz hd hu hNs=>?_
  refine HHx 1 ⟨⟨by decide,(con_rR O hm hsz h8 hy).mono (Mine.bd hd rfl) (Mine.bd hu rfl)⟩,fun _=>trivial,fun z=>?_⟩
  intro h' D' hN'
  exact ⟨z,rfl,aft_ix (q:=⟨.next,lexO w.params X z.1.q.n z.1.q.tn z.1.q.S z.1.q.e z.1.q.B z.1.q.e1++[frW w.params { (⟨sc,tot,sp,tx,xv,bx0,td,X.a,sm,wd,sz,o1,o2,o3,o4,du,k⟩:WV) with o3:=z.1.tu,k:=kW k 13 z.1.T } 14],[(z.1.lb,lst z.1.bs z.1.e2),(z.1.tu,tup [.int z.1.f z.1.tf,.ref z.1.lb] 0)],z.1.N,z.1.T + 1⟩) D' rfl hN' rfl [0,1] (by decide) rfl⟩
theorem sc_s15 {N T:Nat} {aF aC:Addr} {V:WV} {X:LX} {q:LS} {n':Int} {ws:List Str} (ho:V.oth = X.a) (hm:V.sm = 1 ∨ V.sm = 2) (hsz:V.sz = ws.length) (h8:V.sz = 8 ∨ V.sz = 9 ∨ V.sz = 10 ∨ V.sz = 11 ∨ V.sz = 12) (hy:Yields w b X (Fd n') ws q) :
    SCon PG w (cfg b w.params) 530 5300 (cd147 aF aC) (execs (lawS 15 1) (env147 aF aC)) (lexL w.params X q.n q.tn q.S q.e q.B q.e1++[(aF,frW w.params V 14)]) N T
      (fun z:{z:HC // HCok n' (rHp V.sm.toNat ws) z}=>⟨.next,lexO w.params X z.1.q.n z.1.q.tn z.1.q.S z.1.q.e z.1.q.B z.1.q.e1++[frW w.params { V with o4:=z.1.tu,k:=kW V.k 14 z.1.T } 15],[(z.1.lb,lst z.1.bs z.1.e2),(z.1.tu,tup [.int z.1.f z.1.tf,.ref z.1.lb] 0)],z.1.N,z.1.T + 1⟩):=by
  obtain ⟨sc,tot,sp,tx,xv,bx0,td,oth,sm,wd,sz,o1,o2,o3,o4,du,k⟩:=V
  subst ho
  refine scon_of O (s15 b w.params N T aF aC ⟨sc,tot,sp,tx,xv,bx0,td,X.a,sm,wd,sz,o1,o2,o3,o4,du,k⟩ X q.n q.tn q.S q.B q.e q.e1 (HCok n' (rHp sm.toNat ws)) (gh _ _)) fun A s hz hd hu hNs=>?_
  refine HHx 1 ⟨⟨by decide,(con_rH O hm hsz h8 hy).mono (Mine.bd hd rfl) (Mine.bd hu rfl)⟩,fun _=>trivial,fun z=>?_⟩
  intro h' D' hN'
  exact ⟨z,rfl,aft_ix (q:=⟨.next,lexO w.params X z.1.q.n z.1.q.tn z.1.q.S z.1.q.e z.1.q.B z.1.q.e1++[frW w.params { (⟨sc,tot,sp,tx,xv,bx0,td,X.a,sm,wd,sz,o1,o2,o3,o4,du,k⟩:WV) with o4:=z.1.tu,k:=kW k 14 z.1.T } 15],[(z.1.lb,lst z.1.bs z.1.e2),(z.1.tu,tup [.int z.1.f z.1.tf,.ref z.1.lb] 0)],z.1.N,z.1.T + 1⟩) D' rfl hN' rfl [0,1] (by decide) rfl⟩
theorem sc_s17 {N T:Nat} {aF aC:Addr} {V:WV} {ws:List Value} {strip:List Str} {e3:Nat} {m1 m2:Int} (hx:TX ws strip) (h0:strip ≠ []) (hm:V.sm = 1 ∨ V.sm = 2) (hw:V.wd = 2 ∨ V.wd = 3) (ok1:outOk V.sm.toNat strip [(sg [],0)] = true) (ok2:outOk V.wd.toNat strip [(sg [],0)] = true) (e1:mostF V.sm.toNat strip = m1) (e2:mostF V.wd.toNat strip = m2) :
    SCon PG w (cfg b w.params) 530 5300 (cd147 aF aC) (execs (lawS 17 1) (env147 aF aC)) [(aF,frW w.params V 15),(V.sp,lst ws e3)] N T
      (fun z:(Nat × Nat × Tok) × (Nat × Nat × Tok)=>⟨.next,[frW w.params { V with du:=z.2.1,k:=kW V.k 15 z.2.2.1 } 16,lst ws e3],[(z.2.1,lst [.int m1 z.1.2.2,.int m2 z.2.2.2] 0)],z.2.1 + 1,z.2.2.1 + 1⟩):=by
  refine scon_of O (s17 b w.params N T aF aC V ws e3 m1 m2) fun A s hz hd hu hNs=>?_
  refine HHx 2 ⟨⟨by decide,(con_ms O (hm.imp id .inl) hx h0 ok1 e1).mono (Mine.bd hd rfl) (Mine.bd hu rfl)⟩,fun z1=>⟨by decide,(con_ms O (.inr hw) hx h0 ok2 e2).mono (Mine.bd hd rfl) (Mine.bd hu rfl)⟩,fun _ _=>trivial,fun z1 z2=>?_⟩
  intro h' D' hN'
  exact ⟨(z1,z2),rfl,aft_ix (q:=⟨.next,[frW w.params { V with du:=z2.1,k:=kW V.k 15 z2.2.1 } 16,lst ws e3],[(z2.1,lst [.int m1 z1.2.2,.int m2 z2.2.2] 0)],z2.1 + 1,z2.2.1 + 1⟩) D' rfl hN' rfl [0] (by decide) rfl⟩
end
end Mine
end
section
namespace Mine
section
open PyProof.Rows
noncomputable def VCon (prog:Program) (w:World) (C:Cf) (d u:Nat) (c:Code) (t:Sem Value) (rd:Led) (N T:Nat) {Z:Type} (o:Z → Pst):Prop:=
  ∀ (A:Around) (s:Shared),A.handled = none → A.depth ≤ d → A.units ≤ u → TopIn C s.heap → HasL s.heap rd → (rd.map (·.1)).Nodup → (∀ p ∈ rd,C.top p.1 = none) →
    s.heap.objs.size = N → s.toks = T → wpOwn (model prog w) A c t (fun v s'=>∃ z,(.ok (.ret v):Result) = (o z).f.res ∧ Aft s s' rd (o z)) (fun _ _=>False) s
section
variable {prog:Program} {w:World} {C:Cf}
theorem vcon_of (O:C.Ok prog w) {n:Nat} {F:Fam} {mem ctl:List Nat} {c:Code} {e:Expr} {env:Env} {rd:Led} {N T d u:Nat} {Z:Type} {o:Z → Pst}
    (hF:F.Fits fun os=>run C n mem ctl os c .base (EV e env >>= fun v=>pure (.done (.ret v))) rd N T [] [] [] [])
    (H:∀ (A:Around) (s:Shared),A.handled = none → A.depth ≤ d → A.units ≤ u → s.heap.objs.size = N → F.Holds prog w C A ⟨fun fin s'=>match fin with | .done (.ret v)=>∃ z,(.ok (.ret v):Result) = (o z).f.res ∧ Aft s s' rd (o z) | _=>False,fun _ _=>False⟩ (rd.map (·.1)) s.heap s.gens s.drawn s.os) :
    VCon prog w C d u c (eval e env) rd N T o:=by
  intro A s hz hd hu ht hh nd off hN hT
  have D:=rep_start ht hh nd off
  have H':=H A s hz hd hu hN
  obtain ⟨h,g,dr,tk,os⟩:=s
  have hT2:tk = T:=hT
  subst hT2
  exact own_EV O hz hF D hN H'
theorem VCon.use2 {d u:Nat} {c:Code} {t:Sem Value} {rd:Led} {N T:Nat} {Z:Type} {o:Z → Pst} (H:VCon prog w C d u c t rd N T o) {A:Around} {E:Value → Shared → Prop} {Q:Value → Shared → Prop} {S:List Addr} {h₀:Heap} {L:Led} {h:Heap} {g:Array GenState} {dr:Drawn} {os:OsState}
    (hz:A.handled = none) (hd:A.depth ≤ d) (hu:A.units ≤ u) (D:Rep C S h₀ L h) (hN:h.objs.size = N) (ix:List Nat) (v:Z → Value) (hix:ix.Nodup) (hrd:rdK ix L = rd) (hf:∀ z,(o z).f.res = .ok (.ret (v z))) (L₁:Z → Led) (hL:∀ z,setsL ix (o z).wr L = some (L₁ z))
    (next:∀ z h',h'.objs.size = (o z).N → Rep C S h₀ (L₁ z++(o z).nw) h' → Q (v z) ⟨h',g,dr,(o z).T,os⟩) :
    wpOwn (model prog w) A c t Q E ⟨h,g,dr,T,os⟩:=by
  have h1:=H A ⟨h,g,dr,T,os⟩ hz hd hu D.top (fun p hp=>D.has p (rdK_sub ix L p (by rw [hrd]; exact hp))) (by rw [← hrd]; exact rd_nodup D.nodup hix) (fun p hp=>D.off p (rdK_sub ix L p (by rw [hrd]; exact hp))) hN rfl
  refine wpOwn_mono h1 (fun f s' hh=>?_) (fun _ _ x=>x.elim)
  obtain ⟨z,hf',B⟩:=hh
  rw [hf z] at hf'
  have D':=Rep.aft (s:=⟨h,g,dr,T,os⟩) D (hL z) (by rw [hrd]; exact B)
  obtain ⟨h',g',dr',T',os'⟩:=s'
  have e1:=B.gens
  have e2:=B.drawn
  have e3:=B.os
  have e4:=B.toks
  have e5:=B.size
  simp only at e1 e2 e3 e4 e5
  subst e1 e2 e3 e4
  cases hf'
  exact next z h' e5 D'
theorem SCon.use2 {d u:Nat} {c:Code} {t:Sem Flow} {rd:Led} {N T:Nat} {Z:Type} {o:Z → Pst} (H:SCon prog w C d u c t rd N T o) {A:Around} {E:Value → Shared → Prop} {Q:Flow → Shared → Prop} {S:List Addr} {h₀:Heap} {L:Led} {h:Heap} {g:Array GenState} {dr:Drawn} {os:OsState}
    (hz:A.handled = none) (hd:A.depth ≤ d) (hu:A.units ≤ u) (D:Rep C S h₀ L h) (hN:h.objs.size = N) (ix:List Nat) (f:Flow) (hix:ix.Nodup) (hrd:rdK ix L = rd) (hf:∀ z,(o z).f.res = .ok f) (L₁:Z → Led) (hL:∀ z,setsL ix (o z).wr L = some (L₁ z))
    (next:∀ z h',h'.objs.size = (o z).N → Rep C S h₀ (L₁ z++(o z).nw) h' → Q f ⟨h',g,dr,(o z).T,os⟩) :
    wpOwn (model prog w) A c t Q E ⟨h,g,dr,T,os⟩:=by
  have h1:=H A ⟨h,g,dr,T,os⟩ hz hd hu D.top (fun p hp=>D.has p (rdK_sub ix L p (by rw [hrd]; exact hp))) (by rw [← hrd]; exact rd_nodup D.nodup hix) (fun p hp=>D.off p (rdK_sub ix L p (by rw [hrd]; exact hp))) hN rfl
  refine wpOwn_mono h1 (fun f s' hh=>?_) (fun _ _ x=>x.elim)
  obtain ⟨z,hf',B⟩:=hh
  rw [hf z] at hf'
  have D':=Rep.aft (s:=⟨h,g,dr,T,os⟩) D (hL z) (by rw [hrd]; exact B)
  obtain ⟨h',g',dr',T',os'⟩:=s'
  have e1:=B.gens
  have e2:=B.drawn
  have e3:=B.os
  have e4:=B.toks
  have e5:=B.size
  simp only at e1 e2 e3 e4 e5
  subst e1 e2 e3 e4
  cases hf'
  exact next z h' e5 D'
theorem own_execs_one {A:Around} {c:Code} {env:Env} {Q:Flow → Shared → Prop} {E:Value → Shared → Prop} {st:Stmt} {s:Shared} (h:wpOwn (model prog w) A c (exec st env) Q E s):wpOwn (model prog w) A c (execs [st] env) Q E s:=by
  intro Γ p hc hΓ
  rw [execs_cons,Sem.wp_bind']
  refine Sem.wp_mono _ Γ _ (fun f p' s' h'=>?_) (fun _ _ _ h=>h) p s (h Γ p hc hΓ)
  cases f <;> exact h'
theorem own_Return {A:Around} {c:Code} {env:Env} {Q:Flow → Shared → Prop} {E:Value → Shared → Prop} {e:Expr} {pos:Pos} {s:Shared} (h:wpOwn (model prog w) A c (eval e env) (fun v s'=>Q (.ret v) s') E s):wpOwn (model prog w) A c (exec (.Return (some e) pos) env) Q E s:=by
  intro Γ p hc hΓ
  simp only [exec_Return_some,Sem.wp_bind',Sem.wp_cmd_standAt]
  exact Sem.wp_mono _ Γ _ (fun v p' s' h'=>h') (fun _ _ _ h=>h) _ _ (h Γ _ hc hΓ)
end
noncomputable def ifB:Stmt → List Stmt
  | .If _ b _ _=>b
  | _=>[]
noncomputable def stP:Stmt → Pos
  | .If _ _ _ p=>p
  | .Return _ p=>p
  | _=>⟨0,0,0,0⟩
noncomputable def exP:Expr → Pos
  | .Compare _ _ _ p=>p
  | .BoolOp _ _ p=>p
  | _=>⟨0,0,0,0⟩
noncomputable abbrev cmpE (o:CmpOp) (e:Expr):Expr:=.Compare (leftE e) [o] [rightE e] (exP e)
theorem st6:lawS 6 1 = [.If (cmpE .NotEq (testE (stW 6))) (ifB (stW 6)) [] (stP (stW 6))]:=by kernel_rfl
theorem st16:lawS 16 1 = [.If (.BoolOp .Or [cmpE .NotEq (partE (testE (stW 16)) 0),cmpE .NotEq (partE (testE (stW 16)) 1)] (exP (testE (stW 16)))) (ifB (stW 16)) [] (stP (stW 16))]:=by kernel_rfl
theorem st18:lawS 18 1 = [.If (.BoolOp .Or [cmpE .NotEq (partE (testE (stW 18)) 0),cmpE .NotEq (partE (testE (stW 18)) 1)] (exP (testE (stW 18)))) (ifB (stW 18)) [] (stP (stW 18))]:=by kernel_rfl
theorem st19:lawS 19 1 = [.If (cmpE .NotEq (testE (stW 19))) (ifB (stW 19)) [] (stP (stW 19))]:=by kernel_rfl
theorem st20:lawS 20 1 = [.Return (some (cmpE .Eq (retE (stW 20)))) (stP (stW 20))]:=by kernel_rfl
section
variable {w:World} {b:Bool} (O:(cfg b w.params).Ok PG w)
include O
theorem vc6l {N T:Nat} {aF aC:Addr} {V:WV}  :
    VCon PG w (cfg b w.params) 530 5300 (cd147 aF aC) (eval (leftE (testE (stW 6))) (env147 aF aC)) ([(aF,frW w.params V 7)]) N T
      (fun _:Unit=>⟨.ret (.ref V.td),[frW w.params V 7],[],N,T⟩):=by
  refine vcon_of O (e6l b w.params N T aF aC V ) fun A s hz hd hu hNs=>?_
  intro h' D' hN'
  exact ⟨(),rfl,aft_plain (q:=⟨.ret (.ref V.td),[frW w.params V 7],[],N,T⟩) D' rfl hN' rfl⟩
theorem vc6r {N T:Nat} {aF aC:Addr} {V:WV}  :
    VCon PG w (cfg b w.params) 530 5300 (cd147 aF aC) (eval (rightE (testE (stW 6))) (env147 aF aC)) ([(aF,frW w.params V 7)]) N T
      (fun _:Unit=>⟨.ret (.ref V.sp),[frW w.params V 7],[],N,T⟩):=by
  refine vcon_of O (e6r b w.params N T aF aC V ) fun A s hz hd hu hNs=>?_
  intro h' D' hN'
  exact ⟨(),rfl,aft_plain (q:=⟨.ret (.ref V.sp),[frW w.params V 7],[],N,T⟩) D' rfl hN' rfl⟩
theorem vc16al {N T:Nat} {aF aC:Addr} {V:WV} {b2:Addr} {f2:Int} {u2:Tok} :
    VCon PG w (cfg b w.params) 530 5300 (cd147 aF aC) (eval (leftE (partE (testE (stW 16)) 0)) (env147 aF aC)) ([(aF,frW w.params V 15),(V.o2,tup [.int f2 u2,.ref b2] 0)]) N T
      (fun _:Unit=>⟨.ret (.ref b2),[frW w.params V 15,tup [.int f2 u2,.ref b2] 0],[],N,T + 1⟩):=by
  refine vcon_of O (e16al b w.params N T aF aC V 0 b2 0 0 0 f2 0 0 0 u2 0 0) fun A s hz hd hu hNs=>?_
  intro h' D' hN'
  exact ⟨(),rfl,aft_plain (q:=⟨.ret (.ref b2),[frW w.params V 15,tup [.int f2 u2,.ref b2] 0],[],N,T + 1⟩) D' rfl hN' rfl⟩
theorem vc16ar {N T:Nat} {aF aC:Addr} {V:WV} {b4:Addr} {f4:Int} {u4:Tok} :
    VCon PG w (cfg b w.params) 530 5300 (cd147 aF aC) (eval (rightE (partE (testE (stW 16)) 0)) (env147 aF aC)) ([(aF,frW w.params V 15),(V.o4,tup [.int f4 u4,.ref b4] 0)]) N T
      (fun _:Unit=>⟨.ret (.ref b4),[frW w.params V 15,tup [.int f4 u4,.ref b4] 0],[],N,T + 1⟩):=by
  refine vcon_of O (e16ar b w.params N T aF aC V 0 0 0 b4 0 0 0 f4 0 0 0 u4) fun A s hz hd hu hNs=>?_
  intro h' D' hN'
  exact ⟨(),rfl,aft_plain (q:=⟨.ret (.ref b4),[frW w.params V 15,tup [.int f4 u4,.ref b4] 0],[],N,T + 1⟩) D' rfl hN' rfl⟩
theorem vc16bl {N T:Nat} {aF aC:Addr} {V:WV} {b2:Addr} {f2:Int} {u2:Tok} {v2:List Value} {e2:Nat}  {xs ys:List Str} {xj:Str} (hx:TX v2 xs) (hl:xs.length < 64) (hy:sortW xs = ys) (hj:joinS ys = xj) (hjl:xj.length ≤ sizeLine) (hf:PySem.Builtin.Str.tooLong (ys.toArray.foldl (fun n s=>n + s.length + 0) 0) = false) :
    VCon PG w (cfg b w.params) 530 5300 (cd147 aF aC) (eval (leftE (partE (testE (stW 16)) 1)) (env147 aF aC)) ([(aF,frW w.params V 15),(V.o2,tup [.int f2 u2,.ref b2] 0),(b2,lst v2 e2)]) N T
      (fun z:{z:Tok × Nat // T + 2 ≤ z.2}=>⟨.ret (.str xj z.1.1),[frW w.params V 15,tup [.int f2 u2,.ref b2] 0,lst v2 e2],[],N + 4,z.1.2⟩):=by
  refine vcon_of O (e16bl b w.params N T aF aC V 0 b2 0 0 0 f2 0 0 0 u2 0 0 v2 e2 ys xj) fun A s hz hd hu hNs=>?_
  refine HHx 2 ⟨⟨by decide,conSortedL hx hl hy⟩,fun z1=>⟨by decide,conJoin z1.2 hj hjl hf⟩,fun _ _=>trivial,fun z1 z2=>?_⟩
  intro h' D' hN'
  exact ⟨z2,rfl,aft_plain (q:=⟨.ret (.str xj z2.1.1),[frW w.params V 15,tup [.int f2 u2,.ref b2] 0,lst v2 e2],[],N + 4,z2.1.2⟩) D' rfl hN' rfl⟩
theorem vc16br {N T:Nat} {aF aC:Addr} {V:WV} {ws:List Value} {e3:Nat}  {xs ys:List Str} {xj:Str} (hx:TX ws xs) (hl:xs.length < 64) (hy:sortW xs = ys) (hj:joinS ys = xj) (hjl:xj.length ≤ sizeLine) (hf:PySem.Builtin.Str.tooLong (ys.toArray.foldl (fun n s=>n + s.length + 0) 0) = false) :
    VCon PG w (cfg b w.params) 530 5300 (cd147 aF aC) (eval (rightE (partE (testE (stW 16)) 1)) (env147 aF aC)) ([(aF,frW w.params V 15),(V.sp,lst ws e3)]) N T
      (fun z:{z:Tok × Nat // T + 1 ≤ z.2}=>⟨.ret (.str xj z.1.1),[frW w.params V 15,lst ws e3],[],N + 4,z.1.2⟩):=by
  refine vcon_of O (e16br b w.params N T aF aC V ws e3 ys xj) fun A s hz hd hu hNs=>?_
  refine HHx 2 ⟨⟨by decide,conSortedL hx hl hy⟩,fun z1=>⟨by decide,conJoin z1.2 hj hjl hf⟩,fun _ _=>trivial,fun z1 z2=>?_⟩
  intro h' D' hN'
  exact ⟨z2,rfl,aft_plain (q:=⟨.ret (.str xj z2.1.1),[frW w.params V 15,lst ws e3],[],N + 4,z2.1.2⟩) D' rfl hN' rfl⟩
theorem vc18al {N T:Nat} {aF aC:Addr} {V:WV} {b1:Addr} {f1:Int} {u1:Tok}{b2:Addr} {f2:Int} {u2:Tok} :
    VCon PG w (cfg b w.params) 530 5300 (cd147 aF aC) (eval (leftE (partE (testE (stW 18)) 0)) (env147 aF aC)) ([(aF,frW w.params V 16),(V.o1,tup [.int f1 u1,.ref b1] 0),(V.o2,tup [.int f2 u2,.ref b2] 0)]) N T
      (fun _:Unit=>⟨.ret (.ref N),[frW w.params V 16,tup [.int f1 u1,.ref b1] 0,tup [.int f2 u2,.ref b2] 0],[(N,lst [.int f1 u1,.int f2 u2] 0)],N + 1,T + 2⟩):=by
  refine vcon_of O (e18al b w.params N T aF aC V b1 b2 0 0 f1 f2 0 0 u1 u2 0 0) fun A s hz hd hu hNs=>?_
  intro h' D' hN'
  exact ⟨(),rfl,aft_ix (q:=⟨.ret (.ref N),[frW w.params V 16,tup [.int f1 u1,.ref b1] 0,tup [.int f2 u2,.ref b2] 0],[(N,lst [.int f1 u1,.int f2 u2] 0)],N + 1,T + 2⟩) D' rfl hN' rfl [0] (by decide) rfl⟩
theorem vc18ar {N T:Nat} {aF aC:Addr} {V:WV}  :
    VCon PG w (cfg b w.params) 530 5300 (cd147 aF aC) (eval (rightE (partE (testE (stW 18)) 0)) (env147 aF aC)) ([(aF,frW w.params V 16)]) N T
      (fun _:Unit=>⟨.ret (.ref V.du),[frW w.params V 16],[],N,T⟩):=by
  refine vcon_of O (e18ar b w.params N T aF aC V ) fun A s hz hd hu hNs=>?_
  intro h' D' hN'
  exact ⟨(),rfl,aft_plain (q:=⟨.ret (.ref V.du),[frW w.params V 16],[],N,T⟩) D' rfl hN' rfl⟩
theorem vc18bl {N T:Nat} {aF aC:Addr} {V:WV} {b3:Addr} {f3:Int} {u3:Tok}{b4:Addr} {f4:Int} {u4:Tok} :
    VCon PG w (cfg b w.params) 530 5300 (cd147 aF aC) (eval (leftE (partE (testE (stW 18)) 1)) (env147 aF aC)) ([(aF,frW w.params V 16),(V.o3,tup [.int f3 u3,.ref b3] 0),(V.o4,tup [.int f4 u4,.ref b4] 0)]) N T
      (fun _:Unit=>⟨.ret (.ref N),[frW w.params V 16,tup [.int f3 u3,.ref b3] 0,tup [.int f4 u4,.ref b4] 0],[(N,lst [.int f4 u4,.int f3 u3] 0)],N + 1,T + 2⟩):=by
  refine vcon_of O (e18bl b w.params N T aF aC V 0 0 b3 b4 0 0 f3 f4 0 0 u3 u4) fun A s hz hd hu hNs=>?_
  intro h' D' hN'
  exact ⟨(),rfl,aft_ix (q:=⟨.ret (.ref N),[frW w.params V 16,tup [.int f3 u3,.ref b3] 0,tup [.int f4 u4,.ref b4] 0],[(N,lst [.int f4 u4,.int f3 u3] 0)],N + 1,T + 2⟩) D' rfl hN' rfl [0] (by decide) rfl⟩
theorem vc18br {N T:Nat} {aF aC:Addr} {V:WV}  :
    VCon PG w (cfg b w.params) 530 5300 (cd147 aF aC) (eval (rightE (partE (testE (stW 18)) 1)) (env147 aF aC)) ([(aF,frW w.params V 16)]) N T
      (fun _:Unit=>⟨.ret (.ref V.du),[frW w.params V 16],[],N,T⟩):=by
  refine vcon_of O (e18br b w.params N T aF aC V ) fun A s hz hd hu hNs=>?_
  intro h' D' hN'
  exact ⟨(),rfl,aft_plain (q:=⟨.ret (.ref V.du),[frW w.params V 16],[],N,T⟩) D' rfl hN' rfl⟩
theorem vc19l {N T:Nat} {aF aC:Addr} {V:WV} {X:LX} {F:LS → Prop} {q:LS} {words:List Str} {ws:List Value} {e3:Nat} {s1:Int} (q0:LS) (hq0:F q0) (h0:words ≠ []) (hl:words.length ≤ 100) (hs1:V.sz + 1 = s1) (h13:s1 = 9 ∨ s1 = 10 ∨ s1 = 11 ∨ s1 = 12 ∨ s1 = 13) (hlen:s1 = words.length) (hy:Yields w b X F words q)  :
    VCon PG w (cfg b w.params) 530 5300 (cd147 aF aC) (eval (leftE (testE (stW 19))) (env147 aF aC)) (lexL w.params X q.n q.tn q.S q.e q.B q.e1++[(aC,cel (some (.ref X.a))),(aF,frW w.params V 16),(V.sp,lst ws e3)]) N T
      (fun z:{z:CW // GW F words z}=>⟨.ret (.ref (N + 2)),lexO w.params X z.1.q.n z.1.q.tn z.1.q.S z.1.q.e z.1.q.B z.1.q.e1++[cel (some (.ref X.a)),frW w.params V 16,lst ws e3],[(N + 2,lst z.1.vs z.1.ev)],z.1.N,z.1.T⟩):=by
  refine vcon_of O (e19l b w.params N T aF aC V X q.n q.tn q.S q.B ws q.e q.e1 e3 s1 (GW F words) (gw F q0 hq0 words)) fun A s hz hd hu hNs=>?_
  refine HHx 3 ⟨⟨by decide,conIAdd O hs1⟩,fun _=>⟨by decide,conRI3 O h13⟩,fun _ _=>⟨by decide,(con_cB O hlen h0 hl hy).mono (Mine.bd hd rfl) (Mine.bd hu rfl)⟩,fun _ _ _=>trivial,fun _ _ z3=>?_⟩
  intro h' D' hN'
  exact ⟨z3,rfl,aft_ix (q:=⟨.ret (.ref (N + 2)),lexO w.params X z3.1.q.n z3.1.q.tn z3.1.q.S z3.1.q.e z3.1.q.B z3.1.q.e1++[cel (some (.ref X.a)),frW w.params V 16,lst ws e3],[(N + 2,lst z3.1.vs z3.1.ev)],z3.1.N,z3.1.T⟩) D' rfl hN' rfl [2] (by decide) rfl⟩
theorem vc19r {N T:Nat} {aF aC:Addr} {V:WV} {b2:Addr} {f2:Int} {u2:Tok} {v2:List Value} {e2:Nat} (hl:v2.length ≤ 100)  :
    VCon PG w (cfg b w.params) 530 5300 (cd147 aF aC) (eval (rightE (testE (stW 19))) (env147 aF aC)) ([(aF,frW w.params V 16),(V.o2,tup [.int f2 u2,.ref b2] 0),(b2,lst v2 e2)]) N T
      (fun _:Unit=>⟨.ret (.ref (N + 1)),[frW w.params V 16,tup [.int f2 u2,.ref b2] 0,lst v2 e2],[(N + 1,lst (v2++[.str (sg []) (T + 1)]) 0)],N + 2,T + 2⟩):=by
  refine vcon_of O (e19r b w.params N T aF aC V 0 b2 0 0 0 f2 0 0 0 u2 0 0 v2 e2) fun A s hz hd hu hNs=>?_
  have hs:sizeLine = 16777216:=by decide
  refine HHx 1 ⟨⟨by decide,conLAdd (by simp; omega)⟩,fun _=>trivial,fun _=>?_⟩
  intro h' D' hN'
  exact ⟨(),rfl,aft_ix (q:=⟨.ret (.ref (N + 1)),[frW w.params V 16,tup [.int f2 u2,.ref b2] 0,lst v2 e2],[(N + 1,lst (v2++[.str (sg []) (T + 1)]) 0)],N + 2,T + 2⟩) D' rfl hN' rfl [1] (by decide) rfl⟩
theorem vc20r {N T:Nat} {aF aC:Addr} {V:WV} {c c1:Int} (hc:(((PySem.Builtin.Str.occurrences V.tx (sg [10]) 0 V.tx.length (V.tx.length + 1)).length:Nat):Int) = c) (hc1:c + 1 = c1)  :
    VCon PG w (cfg b w.params) 530 5300 (cd147 aF aC) (eval (rightE (retE (stW 20))) (env147 aF aC)) ([(aF,frW w.params V 16)]) N T
      (fun _:Unit=>⟨.ret (.ref (N + 1)),[frW w.params V 16],[(N + 1,lst [.int c1 (T + 3),.int c1 (T + 3)] 0)],N + 2,T + 5⟩):=by
  refine vcon_of O (e20r b w.params N T aF aC V c c1) fun A s hz hd hu hNs=>?_
  refine HHx 2 ⟨⟨by decide,conCount hc⟩,fun _=>⟨by decide,conIAdd O hc1⟩,fun _ _=>trivial,fun _ _=>?_⟩
  intro h' D' hN'
  exact ⟨(),rfl,aft_ix (q:=⟨.ret (.ref (N + 1)),[frW w.params V 16],[(N + 1,lst [.int c1 (T + 3),.int c1 (T + 3)] 0)],N + 2,T + 5⟩) D' rfl hN' rfl [1] (by decide) rfl⟩
theorem vc20l {N T:Nat} {aF aC:Addr} {V:WV} {X Y:LX} {n m:Int} {tn tm:Tok} (ho:V.oth = Y.a) :
    VCon PG w (cfg b w.params) 530 5300 (cd147 aF aC) (eval (leftE (retE (stW 20))) (env147 aF aC)) [(aF,frW w.params V 16),(aC,cel (some (.ref X.a))),(X.a,ins (.ref 105) (some X.d)),(X.d,lexD w.params X n tn),(Y.a,ins (.ref 105) (some Y.d)),(Y.d,lexD w.params Y m tm)] N T
      (fun _:Unit=>⟨.ret (.ref N),[frW w.params V 16,cel (some (.ref X.a)),ins (.ref 105) (some X.d),lexD w.params X n tn,ins (.ref 105) (some Y.d),lexD w.params Y m tm],[(N,lst [.int n tn,.int m tm] 0)],N + 1,T + 2⟩):=by
  obtain ⟨sc,tot,sp,tx,xv,bx0,td,oth,sm,wd,sz,o1,o2,o3,o4,du,k⟩:=V
  subst ho
  refine vcon_of O (e20l b w.params N T aF aC ⟨sc,tot,sp,tx,xv,bx0,td,Y.a,sm,wd,sz,o1,o2,o3,o4,du,k⟩ X Y n m tn tm) fun A s hz hd hu hNs=>?_
  intro h' D' hN'
  exact ⟨(),rfl,aft_ix (q:=⟨.ret (.ref N),[frW w.params ⟨sc,tot,sp,tx,xv,bx0,td,Y.a,sm,wd,sz,o1,o2,o3,o4,du,k⟩ 16,cel (some (.ref X.a)),ins (.ref 105) (some X.d),lexD w.params X n tn,ins (.ref 105) (some Y.d),lexD w.params Y m tm],[(N,lst [.int n tn,.int m tm] 0)],N + 1,T + 2⟩) D' rfl hN' rfl [0] (by decide) rfl⟩
end
end
end Mine
end
section
namespace Mine
section
open PyProof.Rows
variable {w:World} {b:Bool} (O:(cfg b w.params).Ok PG w)
include O
theorem sc_s6 {N T:Nat} {aF aC:Addr} {V:WV} {us ws:List Value} {xs:List Str} {e2 e3:Nat} (hus:TX us xs) (hws:TX ws xs) :
    SCon PG w (cfg b w.params) 530 5300 (cd147 aF aC) (execs (lawS 6 1) (env147 aF aC)) ([(aF,frW w.params V 7),(V.td,lst us e2),(V.sp,lst ws e3)]) N T
      (fun _:Unit=>⟨.next,[frW w.params V 7,lst us e2,lst ws e3],[],N,T⟩):=by
  rw [st6]
  refine sconi fun A h g dr os G hz hd hu D hN hG=>?_
  have hlt:(A.under (cd147 aF aC)).units < cLine:=by show A.units + 3 < 9900; omega
  refine hG ?_
  refine own_execs_one (own_If (own_isTrue_Cmp ?_ (by kernel_rfl)))
  refine (vc6l O).use2 hz hd hu D hN [0] (fun _=>.ref V.td) (by decide) rfl (fun _=>rfl) (fun _=>[(aF,frW w.params V 7),(V.td,lst us e2),(V.sp,lst ws e3)]) (fun _=>rfl) fun _ h1 hN1 D1=>?_
  refine (vc6r O).use2 hz hd hu D1 hN1 [0] (fun _=>.ref V.sp) (by decide) rfl (fun _=>rfl) (fun _=>[(aF,frW w.params V 7),(V.td,lst us e2),(V.sp,lst ws e3)]) (fun _=>rfl) fun _ h2 hN2 D2=>?_
  refine own_ne_lists (D2.has _ (.tail _ (.head _))) (D2.has _ (.tail _ (.tail _ (.head _)))) hus hws hlt (own_truthy ?_)
  exact fun Γ p hc hΓ=>⟨(),rfl,aft_plain (q:=⟨.next,[frW w.params V 7,lst us e2,lst ws e3],[],N,T⟩) (rest:=[]) D2 rfl hN2 rfl⟩
theorem sc_s16 {N T:Nat} {aF aC:Addr} {V:WV} {b2:Addr} {f2:Int} {u2:Tok} {b4:Addr} {f4:Int} {u4:Tok} {v2 v4 ws:List Value} {xs strip ys zs:List Str} {xj:Str} {e2 e3 e4:Nat} (h2x:TX v2 xs) (h4x:TX v4 xs) (hws:TX ws strip) (hl1:xs.length < 64) (hl2:strip.length < 64) (hy1:sortW xs = ys) (hy2:sortW strip = zs) (hj1:joinS ys = xj) (hj2:joinS zs = xj) (hjl:xj.length ≤ sizeLine) (hf1:PySem.Builtin.Str.tooLong (ys.toArray.foldl (fun n s=>n + s.length + 0) 0) = false) (hf2:PySem.Builtin.Str.tooLong (zs.toArray.foldl (fun n s=>n + s.length + 0) 0) = false) :
    SCon PG w (cfg b w.params) 530 5300 (cd147 aF aC) (execs (lawS 16 1) (env147 aF aC)) ([(aF,frW w.params V 15),(V.o2,tup [.int f2 u2,.ref b2] 0),(V.o4,tup [.int f4 u4,.ref b4] 0),(b2,lst v2 e2),(b4,lst v4 e4),(V.sp,lst ws e3)]) N T
      (fun z:Nat × Nat=>⟨.next,[frW w.params V 15,tup [.int f2 u2,.ref b2] 0,tup [.int f4 u4,.ref b4] 0,lst v2 e2,lst v4 e4,lst ws e3],[],z.1,z.2⟩):=by
  rw [st16]
  refine sconi fun A h g dr os G hz hd hu D hN hG=>?_
  have hlt:(A.under (cd147 aF aC)).units < cLine:=by show A.units + 3 < 9900; omega
  refine hG ?_
  refine own_execs_one (own_If (own_isTrue_or (own_isTrue_Cmp ?_ (by kernel_rfl))))
  refine (vc16al O).use2 hz hd hu D hN [0,1] (fun _=>.ref b2) (by decide) rfl (fun _=>rfl) (fun _=>[(aF,frW w.params V 15),(V.o2,tup [.int f2 u2,.ref b2] 0),(V.o4,tup [.int f4 u4,.ref b4] 0),(b2,lst v2 e2),(b4,lst v4 e4),(V.sp,lst ws e3)]) (fun _=>rfl) fun _ h1 hN1 D1=>?_
  refine (vc16ar O).use2 hz hd hu D1 hN1 [0,2] (fun _=>.ref b4) (by decide) rfl (fun _=>rfl) (fun _=>[(aF,frW w.params V 15),(V.o2,tup [.int f2 u2,.ref b2] 0),(V.o4,tup [.int f4 u4,.ref b4] 0),(b2,lst v2 e2),(b4,lst v4 e4),(V.sp,lst ws e3)]) (fun _=>rfl) fun _ h2 hN2 D2=>?_
  refine own_ne_lists (D2.has _ (.tail _ (.tail _ (.tail _ (.head _))))) (D2.has _ (.tail _ (.tail _ (.tail _ (.tail _ (.head _)))))) h2x h4x hlt (own_truthy ?_)
  refine own_isTrue_or (own_isTrue_Cmp ?_ (by kernel_rfl))
  refine (vc16bl O h2x hl1 hy1 hj1 hjl hf1).use2 hz hd hu D2 hN2 [0,1,3] (fun z=>.str xj z.1.1) (by decide) rfl (fun _=>rfl) (fun z=>[(aF,frW w.params V 15),(V.o2,tup [.int f2 u2,.ref b2] 0),(V.o4,tup [.int f4 u4,.ref b4] 0),(b2,lst v2 e2),(b4,lst v4 e4),(V.sp,lst ws e3)]) (fun _=>rfl) fun z3 h3 hN3 D3=>?_
  refine (vc16br O hws hl2 hy2 hj2 hjl hf2).use2 hz hd hu D3 hN3 [0,5] (fun z=>.str xj z.1.1) (by decide) rfl (fun _=>rfl) (fun z=>[(aF,frW w.params V 15),(V.o2,tup [.int f2 u2,.ref b2] 0),(V.o4,tup [.int f4 u4,.ref b4] 0),(b2,lst v2 e2),(b4,lst v4 e4),(V.sp,lst ws e3)]) (fun _=>rfl) fun z4 h4 hN4 D4=>?_
  refine own_ne_strs (own_truthy (own_isTrue_or_nil ?_))
  exact fun Γ p hc hΓ=>⟨(_,_),rfl,aft_plain (q:=⟨.next,[frW w.params V 15,tup [.int f2 u2,.ref b2] 0,tup [.int f4 u4,.ref b4] 0,lst v2 e2,lst v4 e4,lst ws e3],[],N + 4 + 4,z4.1.2⟩) (rest:=[]) D4 rfl hN4 rfl⟩
theorem sc_s18 {N T:Nat} {aF aC:Addr} {V:WV} {b1:Addr} {f1:Int} {u1:Tok} {b2:Addr} {f2:Int} {u2:Tok} {b3:Addr} {f3:Int} {u3:Tok} {b4:Addr} {f4:Int} {u4:Tok} {m1 m2:Int} {t1 t2:Tok} (hf1:f1 = m1) (hf2:f2 = m2) (hf3:f3 = m2) (hf4:f4 = m1) :
    SCon PG w (cfg b w.params) 530 5300 (cd147 aF aC) (execs (lawS 18 1) (env147 aF aC)) ([(aF,frW w.params V 16),(V.o1,tup [.int f1 u1,.ref b1] 0),(V.o2,tup [.int f2 u2,.ref b2] 0),(V.o3,tup [.int f3 u3,.ref b3] 0),(V.o4,tup [.int f4 u4,.ref b4] 0),(V.du,lst [.int m1 t1,.int m2 t2] 0)]) N T
      (fun z:Nat × Nat=>⟨.next,[frW w.params V 16,tup [.int f1 u1,.ref b1] 0,tup [.int f2 u2,.ref b2] 0,tup [.int f3 u3,.ref b3] 0,tup [.int f4 u4,.ref b4] 0,lst [.int m1 t1,.int m2 t2] 0],[],z.1,z.2⟩):=by
  rw [st18]
  refine sconi fun A h g dr os G hz hd hu D hN hG=>?_
  have hlt:(A.under (cd147 aF aC)).units < cLine:=by show A.units + 3 < 9900; omega
  refine hG ?_
  refine own_execs_one (own_If (own_isTrue_or (own_isTrue_Cmp ?_ (by kernel_rfl))))
  refine (vc18al O).use2 hz hd hu D hN [0,1,2] (fun _=>.ref N) (by decide) rfl (fun _=>rfl) (fun _=>[(aF,frW w.params V 16),(V.o1,tup [.int f1 u1,.ref b1] 0),(V.o2,tup [.int f2 u2,.ref b2] 0),(V.o3,tup [.int f3 u3,.ref b3] 0),(V.o4,tup [.int f4 u4,.ref b4] 0),(V.du,lst [.int m1 t1,.int m2 t2] 0)]) (fun _=>rfl) fun _ h1 hN1 D1=>?_
  refine (vc18ar O).use2 hz hd hu D1 hN1 [0] (fun _=>.ref V.du) (by decide) rfl (fun _=>rfl) (fun _=>[(aF,frW w.params V 16),(V.o1,tup [.int f1 u1,.ref b1] 0),(V.o2,tup [.int f2 u2,.ref b2] 0),(V.o3,tup [.int f3 u3,.ref b3] 0),(V.o4,tup [.int f4 u4,.ref b4] 0),(V.du,lst [.int m1 t1,.int m2 t2] 0),(N,lst [.int f1 u1,.int f2 u2] 0)]) (fun _=>rfl) fun _ h2 hN2 D2=>?_
  refine own_ne_ints (xs:=[m1,m2]) (D2.has _ (.tail _ (.tail _ (.tail _ (.tail _ (.tail _ (.tail _ (.head _)))))))) (D2.has _ (.tail _ (.tail _ (.tail _ (.tail _ (.tail _ (.head _))))))) ⟨[(f1,u1),(f2,u2)],rfl,by rw [← hf1,← hf2]; rfl⟩ ⟨[(m1,t1),(m2,t2)],rfl,rfl⟩ hlt (own_truthy ?_)
  refine own_isTrue_or (own_isTrue_Cmp ?_ (by kernel_rfl))
  refine (vc18bl O).use2 hz hd hu D2 hN2 [0,3,4] (fun _=>.ref (N + 1)) (by decide) rfl (fun _=>rfl) (fun _=>[(aF,frW w.params V 16),(V.o1,tup [.int f1 u1,.ref b1] 0),(V.o2,tup [.int f2 u2,.ref b2] 0),(V.o3,tup [.int f3 u3,.ref b3] 0),(V.o4,tup [.int f4 u4,.ref b4] 0),(V.du,lst [.int m1 t1,.int m2 t2] 0),(N,lst [.int f1 u1,.int f2 u2] 0)]) (fun _=>rfl) fun _ h3 hN3 D3=>?_
  refine (vc18br O).use2 hz hd hu D3 hN3 [0] (fun _=>.ref V.du) (by decide) rfl (fun _=>rfl) (fun _=>[(aF,frW w.params V 16),(V.o1,tup [.int f1 u1,.ref b1] 0),(V.o2,tup [.int f2 u2,.ref b2] 0),(V.o3,tup [.int f3 u3,.ref b3] 0),(V.o4,tup [.int f4 u4,.ref b4] 0),(V.du,lst [.int m1 t1,.int m2 t2] 0),(N,lst [.int f1 u1,.int f2 u2] 0),(N + 1,lst [.int f4 u4,.int f3 u3] 0)]) (fun _=>rfl) fun _ h4 hN4 D4=>?_
  refine own_ne_ints (xs:=[m1,m2]) (D4.has _ (.tail _ (.tail _ (.tail _ (.tail _ (.tail _ (.tail _ (.tail _ (.head _))))))))) (D4.has _ (.tail _ (.tail _ (.tail _ (.tail _ (.tail _ (.head _))))))) ⟨[(f4,u4),(f3,u3)],rfl,by rw [← hf4,← hf3]; rfl⟩ ⟨[(m1,t1),(m2,t2)],rfl,rfl⟩ hlt (own_truthy (own_isTrue_or_nil ?_))
  exact fun Γ p hc hΓ=>⟨(_,_),rfl,aft_plain (q:=⟨.next,[frW w.params V 16,tup [.int f1 u1,.ref b1] 0,tup [.int f2 u2,.ref b2] 0,tup [.int f3 u3,.ref b3] 0,tup [.int f4 u4,.ref b4] 0,lst [.int m1 t1,.int m2 t2] 0],[],N + 1 + 1,T + 2 + 2⟩) (rest:=[(N,lst [.int f1 u1,.int f2 u2] 0),(N + 1,lst [.int f4 u4,.int f3 u3] 0)]) D4 rfl hN4 rfl⟩
theorem sc_s19 {N T:Nat} {aF aC:Addr} {V:WV} {b2:Addr} {f2:Int} {u2:Tok} {X:LX} {F:LS → Prop} {q:LS} {words:List Str} {ws v2:List Value} {e2 e3:Nat} {s1:Int} (q0:LS) (hq0:F q0) (h0:words ≠ []) (hl:words.length ≤ 100) (hs1:V.sz + 1 = s1) (h13:s1 = 9 ∨ s1 = 10 ∨ s1 = 11 ∨ s1 = 12 ∨ s1 = 13) (hlen:s1 = words.length) (hy:Yields w b X F words q) (hl2:v2.length ≤ 100) (hv2:∀ t:Tok,TX (v2++[.str (sg []) t]) words) :
    SCon PG w (cfg b w.params) 530 5300 (cd147 aF aC) (execs (lawS 19 1) (env147 aF aC)) (lexL w.params X q.n q.tn q.S q.e q.B q.e1++[(aC,cel (some (.ref X.a))),(aF,frW w.params V 16),(V.sp,lst ws e3),(V.o2,tup [.int f2 u2,.ref b2] 0),(b2,lst v2 e2)]) N T
      (fun z:{z:LS × Nat × Nat // F z.1}=>⟨.next,lexO w.params X z.1.1.n z.1.1.tn z.1.1.S z.1.1.e z.1.1.B z.1.1.e1++[cel (some (.ref X.a)),frW w.params V 16,lst ws e3,tup [.int f2 u2,.ref b2] 0,lst v2 e2],[],z.1.2.1,z.1.2.2⟩):=by
  rw [st19]
  refine sconi fun A h g dr os G hz hd hu D hN hG=>?_
  have hlt:(A.under (cd147 aF aC)).units < cLine:=by show A.units + 3 < 9900; omega
  refine hG ?_
  refine own_execs_one (own_If (own_isTrue_Cmp ?_ (by kernel_rfl)))
  refine (vc19l O q0 hq0 h0 hl hs1 h13 hlen hy).use2 hz hd hu D hN [0,1,2,3,4,5,6,7,8,9,10,11] (fun z=>.ref (N + 2)) (by decide) rfl (fun _=>rfl) (fun z=>lexL w.params X z.1.q.n z.1.q.tn z.1.q.S z.1.q.e z.1.q.B z.1.q.e1++[(aC,cel (some (.ref X.a))),(aF,frW w.params V 16),(V.sp,lst ws e3),(V.o2,tup [.int f2 u2,.ref b2] 0),(b2,lst v2 e2)]) (fun _=>rfl) fun z1 h1 hN1 D1=>?_
  refine (vc19r O hl2).use2 hz hd hu D1 hN1 [10,12,13] (fun _=>.ref (z1.1.N + 1)) (by decide) rfl (fun _=>rfl) (fun _=>lexL w.params X z1.1.q.n z1.1.q.tn z1.1.q.S z1.1.q.e z1.1.q.B z1.1.q.e1++[(aC,cel (some (.ref X.a))),(aF,frW w.params V 16),(V.sp,lst ws e3),(V.o2,tup [.int f2 u2,.ref b2] 0),(b2,lst v2 e2)]++[(N + 2,lst z1.1.vs z1.1.ev)]) (fun _=>rfl) fun _ h2 hN2 D2=>?_
  have D3:Rep (cfg b w.params) _ _ (lexL w.params X z1.1.q.n z1.1.q.tn z1.1.q.S z1.1.q.e z1.1.q.B z1.1.q.e1++[(aC,cel (some (.ref X.a))),(aF,frW w.params V 16),(V.sp,lst ws e3),(V.o2,tup [.int f2 u2,.ref b2] 0),(b2,lst v2 e2)]++[(N + 2,lst z1.1.vs z1.1.ev),(z1.1.N + 1,lst (v2++[.str (sg []) (z1.1.T + 1)]) 0)]) h2:=D2
  refine own_ne_lists (D3.has _ (List.mem_append_right _ (.head _))) (D3.has _ (List.mem_append_right _ (.tail _ (.head _)))) z1.2.2 (hv2 _) hlt (own_truthy ?_)
  exact fun Γ p hc hΓ=>⟨⟨(z1.1.q,_,_),z1.2.1⟩,rfl,aft_plain (q:=⟨.next,lexO w.params X z1.1.q.n z1.1.q.tn z1.1.q.S z1.1.q.e z1.1.q.B z1.1.q.e1++[cel (some (.ref X.a)),frW w.params V 16,lst ws e3,tup [.int f2 u2,.ref b2] 0,lst v2 e2],[],z1.1.N + 2,z1.1.T + 2⟩) (rest:=[(N + 2,lst z1.1.vs z1.1.ev),(z1.1.N + 1,lst (v2++[.str (sg []) (z1.1.T + 1)]) 0)]) D3 rfl hN2 rfl⟩
theorem sc_s20 {N T:Nat} {aF aC:Addr} {V:WV} {X Y:LX} {n m c c1:Int} {tn tm:Tok} (ho:V.oth = Y.a) (hc:(((PySem.Builtin.Str.occurrences V.tx (sg [10]) 0 V.tx.length (V.tx.length + 1)).length:Nat):Int) = c) (hc1:c + 1 = c1) (hn:n = c1) (hm:m = c1) :
    SCon PG w (cfg b w.params) 530 5300 (cd147 aF aC) (execs (lawS 20 1) (env147 aF aC)) ([(aF,frW w.params V 16),(aC,cel (some (.ref X.a))),(X.a,ins (.ref 105) (some X.d)),(X.d,lexD w.params X n tn),(Y.a,ins (.ref 105) (some Y.d)),(Y.d,lexD w.params Y m tm)]) N T
      (fun z:Nat × Nat=>⟨.ret (.bool true),[frW w.params V 16,cel (some (.ref X.a)),ins (.ref 105) (some X.d),lexD w.params X n tn,ins (.ref 105) (some Y.d),lexD w.params Y m tm],[],z.1,z.2⟩):=by
  rw [st20]
  refine sconi fun A h g dr os G hz hd hu D hN hG=>?_
  have hlt:(A.under (cd147 aF aC)).units < cLine:=by show A.units + 3 < 9900; omega
  refine hG ?_
  refine own_execs_one (own_Return (own_Cmp ?_ (by kernel_rfl)))
  refine (vc20l O ho).use2 hz hd hu D hN [0,1,2,3,4,5] (fun _=>.ref N) (by decide) rfl (fun _=>rfl) (fun _=>[(aF,frW w.params V 16),(aC,cel (some (.ref X.a))),(X.a,ins (.ref 105) (some X.d)),(X.d,lexD w.params X n tn),(Y.a,ins (.ref 105) (some Y.d)),(Y.d,lexD w.params Y m tm)]) (fun _=>rfl) fun _ h1 hN1 D1=>?_
  refine (vc20r O hc hc1).use2 hz hd hu D1 hN1 [0] (fun _=>.ref (N + 1 + 1)) (by decide) rfl (fun _=>rfl) (fun _=>[(aF,frW w.params V 16),(aC,cel (some (.ref X.a))),(X.a,ins (.ref 105) (some X.d)),(X.d,lexD w.params X n tn),(Y.a,ins (.ref 105) (some Y.d)),(Y.d,lexD w.params Y m tm),(N,lst [.int n tn,.int m tm] 0)]) (fun _=>rfl) fun _ h2 hN2 D2=>?_
  refine own_eq_ints (xs:=[c1,c1]) (D2.has _ (.tail _ (.tail _ (.tail _ (.tail _ (.tail _ (.tail _ (.head _)))))))) (D2.has _ (.tail _ (.tail _ (.tail _ (.tail _ (.tail _ (.tail _ (.tail _ (.head _))))))))) ⟨[(n,tn),(m,tm)],rfl,by rw [hn,hm]; rfl⟩ ⟨[(c1,T + 2 + 3),(c1,T + 2 + 3)],rfl,rfl⟩ hlt ?_
  exact ⟨(_,_),rfl,aft_plain (q:=⟨.ret (.bool true),[frW w.params V 16,cel (some (.ref X.a)),ins (.ref 105) (some X.d),lexD w.params X n tn,ins (.ref 105) (some Y.d),lexD w.params Y m tm],[],N + 1 + 2,T + 2 + 5⟩) (rest:=[(N,lst [.int n tn,.int m tm] 0),(N + 1 + 1,lst [.int c1 (T + 2 + 3),.int c1 (T + 2 + 3)] 0)]) D2 rfl hN2 rfl⟩
end
end Mine
end
section
namespace Mine
section
open PyProof.Rows
section
variable {prog:Program} {w:World}
theorem own_onRaise {α:Type} {A:Around} {c:Code} {m:Sem α} {k:Value → Sem Unit} {Q:α → Shared → Prop} {E:Value → Shared → Prop} {s:Shared} (h:wpOwn (model prog w) A c m Q (fun _ _=>False) s):wpOwn (model prog w) A c (m.onRaise k) Q E s:=by
  intro Γ p hc hΓ
  rw [Sem.wp_onRaise]
  exact Sem.wp_mono _ Γ _ (fun _ _ _ h=>h) (fun _ _ _ h=>h.elim) p s (h Γ p hc hΓ)
theorem codeAny_func_own {A:Around} {body:List Stmt} {env:Env} {R:Result → Shared → Prop} {s:Shared}
    (h:wpOwn (model prog w) A (.func body env) (execs body env) (fun f s'=>R (.ok (.ret (match f with | .ret v=>v | _=>.none))) s') (fun _ _=>False) s) :
    codeAny (model prog w) A (.func body env) R s:=by
  refine codeAny_of_own ?_
  show wpOwn _ A _ (do point; match ← (execs body env).onRaise (leaving env) with | .ret v=>ret v | _=>ret .none) _ _ s
  refine o_point ?_
  show wpOwn _ A _ (do match ← (execs body env).onRaise (leaving env) with | .ret v=>ret v | _=>ret .none) _ _ s
  refine wpOwn_bind (own_onRaise (wpOwn_mono h (fun f s' h'=>?_) fun _ _ h'=>h'))
  cases f <;> exact fun Γ p hc hΓ=>h'
end
noncomputable def lR20:List Stmt:=lawS 20 1
noncomputable def lR19:List Stmt:=lawS 19 1++lR20
noncomputable def lR18:List Stmt:=lawS 18 1++lR19
noncomputable def lR17:List Stmt:=lawS 17 1++lR18
noncomputable def lR16:List Stmt:=lawS 16 1++lR17
noncomputable def lR15:List Stmt:=lawS 15 1++lR16
noncomputable def lR14:List Stmt:=lawS 14 1++lR15
noncomputable def lR13:List Stmt:=lawS 13 1++lR14
noncomputable def lR12:List Stmt:=lawS 12 1++lR13
noncomputable def lR9:List Stmt:=lawS 9 3++lR12
noncomputable def lR8:List Stmt:=lawS 8 1++lR9
noncomputable def lR7:List Stmt:=lawS 7 1++lR8
noncomputable def lR6:List Stmt:=lawS 6 1++lR7
noncomputable def lR5:List Stmt:=lawS 5 1++lR6
noncomputable def lR4:List Stmt:=lawS 4 1++lR5
noncomputable def lR0:List Stmt:=lawS 0 4++lR4
theorem law_body:bodyOf st147 = lR0:=by kernel_rfl
theorem str_ext {x y:Str} (h:x.cps.toList = y.cps.toList):x = y:=by
  obtain ⟨⟨x⟩⟩:=x
  obtain ⟨⟨y⟩⟩:=y
  exact congrArg (fun l=>(⟨⟨l⟩⟩:Str)) h
theorem eqL_eq {xs ys:List Str} (h:eqL xs ys = true):xs = ys:=by
  unfold eqL at h
  rw [beq_iff_eq] at h
  exact (List.map_inj_right fun a b=>str_ext).mp h
noncomputable def stripF (nums:List Int):List Str:=nums.map bxI
noncomputable def wordF (nums:List Int) (sm wd:Nat):List Str:=stripF nums++List.replicate (sm + wd) (sg [])
noncomputable def r1F (nums:List Int) (sm wd:Nat):List Str × Int:=rHp sm (wordF nums sm wd)
noncomputable def r2F (nums:List Int) (sm wd:Nat):List Str × Int:=rRp wd (r1F nums sm wd).1
noncomputable def r3F (nums:List Int) (sm wd:Nat):List Str × Int:=rRp wd (wordF nums sm wd)
noncomputable def r4F (nums:List Int) (sm wd:Nat):List Str × Int:=rHp sm (r3F nums sm wd).1
theorem rHp_len (m:Nat) (ws:List Str):(rHp m ws).1.length = ws.length:=by
  unfold rHp; split
  · exact rl_len1 _ _
  · exact rl_len2 _ _ _
theorem rRp_len (m:Nat) (ws:List Str):(rRp m ws).1.length = ws.length:=by
  unfold rRp; split
  · exact rl_len3 _ _ _
  · exact rl_len4 _ _ _ _
theorem wordF_len (nums:List Int) (sm wd:Nat):(wordF nums sm wd).length = nums.length + sm + wd:=by simp [wordF,stripF]; omega
theorem r1F_len (nums:List Int) (sm wd:Nat):(r1F nums sm wd).1.length = nums.length + sm + wd:=by rw [r1F,rHp_len,wordF_len]
theorem r2F_len (nums:List Int) (sm wd:Nat):(r2F nums sm wd).1.length = nums.length + sm + wd:=by rw [r2F,rRp_len,r1F_len]
theorem r3F_len (nums:List Int) (sm wd:Nat):(r3F nums sm wd).1.length = nums.length + sm + wd:=by rw [r3F,rRp_len,wordF_len]
structure ChkS (nums:List Int) (sm wd:Nat):Prop where
  same:(r2F nums sm wd).1 = (r4F nums sm wd).1
  join:joinS (sortW (r2F nums sm wd).1) = joinS (sortW (stripF nums))
  ok1:outOk sm (stripF nums) [(sg [],0)] = true
  ok2:outOk wd (stripF nums) [(sg [],0)] = true
  m1:mostF sm (stripF nums) = (r1F nums sm wd).2
  m4:mostF sm (stripF nums) = (r4F nums sm wd).2
  m2:mostF wd (stripF nums) = (r2F nums sm wd).2
  m3:mostF wd (stripF nums) = (r3F nums sm wd).2
  len:(joinS (sortW (stripF nums))).length ≤ 1000
  t1:PySem.Builtin.Str.tooLong ((sortW (r2F nums sm wd).1).toArray.foldl (fun n s=>n + s.length + 0) 0) = false
  t2:PySem.Builtin.Str.tooLong ((sortW (stripF nums)).toArray.foldl (fun n s=>n + s.length + 0) 0) = false
theorem chkS_of {nums:List Int} {sm wd:Nat} (h:chkS (stripF nums) sm wd = true):ChkS nums sm wd:=by
  unfold chkS at h
  simp only [Bool.and_eq_true,beq_iff_eq,decide_eq_true_eq,Bool.not_eq_true'] at h
  obtain ⟨⟨⟨⟨⟨⟨⟨⟨⟨⟨h1,h2⟩,h3⟩,h4⟩,h5⟩,h6⟩,h7⟩,h8⟩,h9⟩,h10⟩,h11⟩:=h
  exact ⟨eqL_eq h1,str_ext h2,h3,h4,h5,h6,h7,h8,h9,h10,h11⟩
noncomputable def nlN (nums:List Int):Int:=1 + ((nlK (ksI nums):Nat):Int)
theorem textK_eq (nums:List Int):textK (ksI nums) = textF nums:=by
  simp only [textK,textF,ksI,List.foldl_map,wrI]
structure VF (nums:List Int) (V:WV):Prop where
  tx:V.tx = textF nums
  sm:V.sm = 1 ∨ V.sm = 2
  wd:V.wd = 2 ∨ V.wd = 3
  sz:(nums.length:Int) + V.sm + V.wd = V.sz
  sme:1 + (V.tot + 1).fmod 2 = V.sm
  wde:2 + (V.tot.fdiv 2 + 1).fmod 2 = V.wd
  lo:5 ≤ nums.length
  hi:nums.length ≤ 7
  chk:ChkS nums V.sm.toNat V.wd.toNat
  cnt:(((PySem.Builtin.Str.occurrences V.tx (sg [10]) 0 V.tx.length (V.tx.length + 1)).length:Nat):Int) = (nlK (ksI nums):Nat)
theorem VF.to {nums:List Int} {V:WV} (h:VF nums V) (V':WV) (h1:V'.tx = V.tx) (h2:V'.sm = V.sm) (h3:V'.wd = V.wd) (h4:V'.sz = V.sz) (h5:V'.tot = V.tot):VF nums V':=by
  obtain ⟨sc,tot,sp,tx,xv,bx0,td,oth,sm,wd,sz,o1,o2,o3,o4,du,k⟩:=V
  obtain ⟨sc',tot',sp',tx',xv',bx0',td',oth',sm',wd',sz',o1',o2',o3',o4',du',k'⟩:=V'
  simp only at h1 h2 h3 h4 h5
  subst h1 h2 h3 h4 h5
  exact ⟨h.tx,h.sm,h.wd,h.sz,h.sme,h.wde,h.lo,h.hi,h.chk,h.cnt⟩
theorem sz8g:∀ n:Nat,n < 8 → 5 ≤ n → ∀ a ∈ ([1,2]:List Int),∀ b ∈ ([2,3]:List Int),(n:Int) + a + b = 8 ∨ (n:Int) + a + b = 9 ∨ (n:Int) + a + b = 10 ∨ (n:Int) + a + b = 11 ∨ (n:Int) + a + b = 12:=by decide
theorem VF.sz8 {nums:List Int} {V:WV} (h:VF nums V):V.sz = 8 ∨ V.sz = 9 ∨ V.sz = 10 ∨ V.sz = 11 ∨ V.sz = 12:=by
  have z:=sz8g nums.length (Nat.lt_succ_of_le h.hi) h.lo V.sm (h.sm.elim (fun e=>e ▸ .head _) fun e=>e ▸ .tail _ (.head _)) V.wd (h.wd.elim (fun e=>e ▸ .head _) fun e=>e ▸ .tail _ (.head _))
  rw [h.sz] at z
  exact z
theorem VF.szN {nums:List Int} {V:WV} (h:VF nums V):V.sz = ((nums.length + V.sm.toNat + V.wd.toNat:Nat):Int):=by
  rw [← h.sz]
  rcases h.sm with e | e <;> rcases h.wd with e' | e' <;> rw [e,e'] <;> rfl
theorem VF.n12 {nums:List Int} {V:WV} (h:VF nums V):nums.length + V.sm.toNat + V.wd.toNat ≤ 12:=
  Nat.add_le_add (b:=9) (d:=3) (Nat.add_le_add (b:=7) (d:=2) h.hi (h.sm.elim (fun e=>by rw [e]; decide) fun e=>by rw [e]; decide)) (h.wd.elim (fun e=>by rw [e]; decide) fun e=>by rw [e]; decide)
theorem nlW_eq:∀ (ws:List Wd),nlW ws = ((nlK (ws.map fun x=>(x.k,x.bare)):Nat):Int)
  | []=>rfl
  | x :: ws=>by
    have ih:=nlW_eq ws
    have e:nlW (x :: ws) = (if x.k = 1 then 1 else 0) + nlW ws:=rfl
    rw [e,ih]
    simp only [nlK,List.map_cons,List.filter_cons]
    by_cases h:x.k = 1
    · simp [h]; omega
    · simp [h]
theorem tx_size (nums:List Int) (h:nums.length ≤ 7):(textF nums).cps.size ≤ sizeLine:=by
  have hs:sizeLine = 16777216:=by decide
  have h1:∀ ks:List (Nat × Bool),(chrK ks).length ≤ 4 * ks.length:=fun ks=>by
    induction ks with
    | nil=>simp [chrK]
    | cons p ks ih=>
      have:=wrt_len p.1 p.2
      simp only [chrK,List.flatMap_cons,List.length_append,List.length_cons] at ih ⊢
      omega
  have h2:=h1 (ksI nums)
  have h3:=congrArg List.length (text_chr nums)
  have h4:(ksI nums).length = nums.length:=by simp [ksI]
  rw [Array.length_toList] at h3
  omega
section
variable {w:World} {b:Bool} (O:(cfg b w.params).Ok PG w)
include O
theorem yields_ks {X:LX} {F:LS → Prop} {e1:Nat} {more:List Str} (hX:codeHas (fds "code" X.cvs) qLam = true) {ks:List (Nat × Bool)} {S:List Value} (hS:WdOf ks S) (hl:ks.length ≤ 100) (hk:∀ p ∈ ks,p.1 < 5) {n:Int} {tn:Tok} {e:Nat}
    (h:∀ tn' e',Yields w b X F more ⟨n + (nlK ks:Nat),tn',[],e',[],e1⟩):Yields w b X F (ks.map (fun p=>bx p.1)++more) ⟨n,tn,S,e,[],e1⟩:=by
  obtain ⟨ws,rfl,rfl⟩:=hS
  rw [← nlW_eq] at h
  have:=yields_text O hX ws n tn e (by simpa using hl) (fun x hx=>hk (x.k,x.bare) (List.mem_map_of_mem (f:=fun x:Wd=>(x.k,x.bare)) hx)) h
  simpa [Function.comp_def] using this
theorem yields_q {X:LX} (hX:codeHas (fds "code" X.cvs) qLam = true) {q:LS} {n':Int} {xs:List Str} (hn:q.n = n') (hS:q.S = []) (hB:TX q.B xs) (hl:xs.length ≤ 14) (k:Nat):Yields w b X (Fd n') (xs++List.replicate k (sg [])) q:=by
  obtain ⟨n,tn,S,e,B,e1⟩:=q
  obtain ⟨ps,h1,rfl⟩:=hB
  simp only at hn hS h1
  subst hn hS h1
  exact yields_back O ps e1 (by simpa using hl) fun e1'=>yields_end O hX ⟨rfl,rfl,rfl⟩ k
theorem yields_w {X:LX} (hX:codeHas (fds "code" X.cvs) qLam = true) {nums:List Int} (hl:nums.length ≤ 7) {S:List Value} (hS:WdOf (ksI nums) S) {tn:Tok} {e e1 k:Nat}:Yields w b X (Fd (nlN nums)) (stripF nums++List.replicate k (sg [])) ⟨1,tn,S,e,[],e1⟩:=by
  have:=yields_ks (F:=Fd (nlN nums)) (more:=List.replicate k (sg [])) (e1:=e1) (n:=1) (tn:=tn) (e:=e) O hX hS (by simp [ksI]; omega) (ksI_lt nums) fun tn' e'=>yields_end O hX ⟨rfl,rfl,rfl⟩ k
  have e2:(ksI nums).map (fun p=>bx p.1) = stripF nums:=by simp [ksI,stripF,bxI,Function.comp_def]
  rw [e2] at this
  exact this
end
end
end Mine
end
section
namespace Mine
section
open PyProof.Rows
noncomputable def EndQ (w:World) (b:Bool) (S':List Addr) (h₀:Heap) (sc:Addr) (ss:List Value) (e:Nat) (g:Array GenState) (dr:Drawn) (os:OsState) (Q:Flow → Shared → Prop):Prop:=
  ∀ (N T:Nat) (c0 c1:Addr) (rest:Led) (h':Heap),Rep (cfg b w.params) S' h₀ ([(sc,lst ss e),(111,tab2 c0 c1)]++rest) h' → h'.objs.size = N → Q (.ret (.bool true)) ⟨h',g,dr,T,os⟩
theorem lexL_sw {P:Params} {Y:LX} {n:Int} {tn:Tok} {S:List Value} {e:Nat} {B:List Value} {e1:Nat} {c:Addr} {v:List Value} (hc:Y.cod = c) (hv:Y.cvs = v):lexL P Y n tn S e B e1 = (lexL P Y n tn S e B e1).set 7 (c,fds "code" v):=by subst hc hv; rfl
theorem lexO_sw {P:Params} {Y:LX} {n:Int} {tn:Tok} {S:List Value} {e:Nat} {B:List Value} {e1:Nat} {v:List Value} (hv:Y.cvs = v):lexO P Y n tn S e B e1 = (lexO P Y n tn S e B e1).set 7 (fds "code" v):=by subst hv; rfl
theorem tx_snoc' {vs:List Value} {xs:List Str} (h:TX vs xs) (t:Tok):TX (vs++[.str (sg []) t]) (xs++[sg []]):=TX.snoc h
section
variable {w:World} {b:Bool} (O:(cfg b w.params).Ok PG w)
variable {A:Around} {S':List Addr} {h₀:Heap} {g:Array GenState} {dr:Drawn} {os:OsState} {aF aC sc:Addr} {ss:List Value} {e:Nat} {Q:Flow → Shared → Prop} (hz:A.handled = none) (hd:A.depth ≤ 530) (hu:A.units ≤ 5300) (hQ:EndQ w b S' h₀ sc ss e g dr os Q) {nums:List Int} {V:WV} (hV:VF nums V) {h:Heap} {N T:Nat}
include O hz hd hu hQ hV
theorem lawD {sv us:List Value} {se ue:Nat} {X:LX} {cv0:List Value} {Y:LX} {q:LS} {m:Int} {tm:Tok} {SY BY:List Value} {eY eB:Nat} {lb1:Addr} {v1:List Value} {x1:Nat} {f1:Int} {u1:Tok} {lb2:Addr} {v2:List Value} {x2:Nat} {f2:Int} {u2:Tok} {lb3:Addr} {v3:List Value} {x3:Nat} {f3:Int} {u3:Tok} {lb4:Addr} {v4:List Value} {x4:Nat} {f4:Int} {u4:Tok} {m1 m2:Int} {t1 t2:Tok} (hX:codeHas (fds "code" X.cvs) qLam = true) (hsv:TX sv (stripF nums)) (ho:V.oth = Y.a) (hqn:q.n = nlN nums) (hqS:q.S = []) (hqB:TX q.B (r2F nums V.sm.toNat V.wd.toNat).1) (h2:TX v2 (r2F nums V.sm.toNat V.wd.toNat).1) (hm:m = nlN nums) (hf1:f1 = m1) (hf2:f2 = m2) (hf3:f3 = m2) (hf4:f4 = m1)
    (D:Rep (cfg b w.params) S' h₀ ([(sc,lst ss e),(111,tab2 X.cod0 X.cod),(aF,frW w.params V 16),(aC,cel (some (.ref X.a))),(V.sp,lst sv se)]++(lexL w.params X q.n q.tn q.S q.e q.B q.e1++([(X.cod0,fds "code" cv0),(V.td,lst us ue)]++((lexL w.params Y m tm SY eY BY eB).eraseIdx 7++[(lb1,lst v1 x1),(V.o1,tup [.int f1 u1,.ref lb1] 0),(lb2,lst v2 x2),(V.o2,tup [.int f2 u2,.ref lb2] 0),(lb3,lst v3 x3),(V.o3,tup [.int f3 u3,.ref lb3] 0),(lb4,lst v4 x4),(V.o4,tup [.int f4 u4,.ref lb4] 0),(V.du,lst [.int m1 t1,.int m2 t2] 0)])))) h) (hN:h.objs.size = N):wpOwn (model PG w) A (cd147 aF aC) (execs lR18 (env147 aF aC)) Q (fun _ _=>False) ⟨h,g,dr,T,os⟩:=by
  have hlen:(V.sz + 1:Int) = ((r2F nums V.sm.toNat V.wd.toNat).1++List.replicate 1 (sg [])).length:=by
    rw [List.length_append,r2F_len]; have:=hV.szN; simp; omega
  have h12:=hV.n12
  have hv2l:v2.length ≤ 100:=by rw [h2.len,r2F_len]; omega
  show wpOwn (model PG w) A (cd147 aF aC) (execs (lawS 18 1++lR19) _) _ _ _
  refine own_execs_app ?_
  refine (sc_s18 O hf1 hf2 hf3 hf4).use2 hz hd hu D hN [2,25,27,29,31,32] .next (by decide) rfl (fun _=>rfl) (fun z=>[(sc,lst ss e),(111,tab2 X.cod0 X.cod),(aF,frW w.params V 16),(aC,cel (some (.ref X.a))),(V.sp,lst sv se)]++(lexL w.params X q.n q.tn q.S q.e q.B q.e1++([(X.cod0,fds "code" cv0),(V.td,lst us ue)]++((lexL w.params Y m tm SY eY BY eB).eraseIdx 7++[(lb1,lst v1 x1),(V.o1,tup [.int f1 u1,.ref lb1] 0),(lb2,lst v2 x2),(V.o2,tup [.int f2 u2,.ref lb2] 0),(lb3,lst v3 x3),(V.o3,tup [.int f3 u3,.ref lb3] 0),(lb4,lst v4 x4),(V.o4,tup [.int f4 u4,.ref lb4] 0),(V.du,lst [.int m1 t1,.int m2 t2] 0)])))) (fun _=>rfl) fun z1 h1 hN1 D1=>?_
  have D1':Rep (cfg b w.params) S' h₀ ([(sc,lst ss e),(111,tab2 X.cod0 X.cod),(aF,frW w.params V 16),(aC,cel (some (.ref X.a))),(V.sp,lst sv se)]++(lexL w.params X q.n q.tn q.S q.e q.B q.e1++([(X.cod0,fds "code" cv0),(V.td,lst us ue)]++((lexL w.params Y m tm SY eY BY eB).eraseIdx 7++[(lb1,lst v1 x1),(V.o1,tup [.int f1 u1,.ref lb1] 0),(lb2,lst v2 x2),(V.o2,tup [.int f2 u2,.ref lb2] 0),(lb3,lst v3 x3),(V.o3,tup [.int f3 u3,.ref lb3] 0),(lb4,lst v4 x4),(V.o4,tup [.int f4 u4,.ref lb4] 0),(V.du,lst [.int m1 t1,.int m2 t2] 0)])))) h1:=by rw [← List.append_nil ([(sc,lst ss e),(111,tab2 X.cod0 X.cod),(aF,frW w.params V 16),(aC,cel (some (.ref X.a))),(V.sp,lst sv se)]++(lexL w.params X q.n q.tn q.S q.e q.B q.e1++([(X.cod0,fds "code" cv0),(V.td,lst us ue)]++((lexL w.params Y m tm SY eY BY eB).eraseIdx 7++[(lb1,lst v1 x1),(V.o1,tup [.int f1 u1,.ref lb1] 0),(lb2,lst v2 x2),(V.o2,tup [.int f2 u2,.ref lb2] 0),(lb3,lst v3 x3),(V.o3,tup [.int f3 u3,.ref lb3] 0),(lb4,lst v4 x4),(V.o4,tup [.int f4 u4,.ref lb4] 0),(V.du,lst [.int m1 t1,.int m2 t2] 0)]))))]; exact D1
  show wpOwn (model PG w) A (cd147 aF aC) (execs (lawS 19 1++lR20) _) _ _ _
  refine own_execs_app ?_
  refine (sc_s19 (F:=Fd (nlN nums)) (words:=(r2F nums V.sm.toNat V.wd.toNat).1++List.replicate 1 (sg [])) (X:=X) (q:=q) O ⟨nlN nums,0,[],0,[],0⟩ ⟨rfl,rfl,rfl⟩ (by simp) (by rw [List.length_append,r2F_len]; simp; omega) rfl (by rcases hV.sz8 with e | e | e | e | e <;> rw [e] <;> decide) hlen (yields_q O hX hqn hqS hqB (by rw [r2F_len]; omega) 1) hv2l (fun t=>tx_snoc' h2 t)).use2 hz hd hu D1' hN1 [5,6,7,8,9,10,11,12,13,3,2,4,27,26] .next (by decide) rfl (fun _=>rfl) (fun z=>[(sc,lst ss e),(111,tab2 X.cod0 X.cod),(aF,frW w.params V 16),(aC,cel (some (.ref X.a))),(V.sp,lst sv se)]++(lexL w.params X z.1.1.n z.1.1.tn z.1.1.S z.1.1.e z.1.1.B z.1.1.e1++([(X.cod0,fds "code" cv0),(V.td,lst us ue)]++((lexL w.params Y m tm SY eY BY eB).eraseIdx 7++[(lb1,lst v1 x1),(V.o1,tup [.int f1 u1,.ref lb1] 0),(lb2,lst v2 x2),(V.o2,tup [.int f2 u2,.ref lb2] 0),(lb3,lst v3 x3),(V.o3,tup [.int f3 u3,.ref lb3] 0),(lb4,lst v4 x4),(V.o4,tup [.int f4 u4,.ref lb4] 0),(V.du,lst [.int m1 t1,.int m2 t2] 0)])))) (fun _=>rfl) fun z2 h2 hN2 D2=>?_
  have D2':Rep (cfg b w.params) S' h₀ ([(sc,lst ss e),(111,tab2 X.cod0 X.cod),(aF,frW w.params V 16),(aC,cel (some (.ref X.a))),(V.sp,lst sv se)]++(lexL w.params X z2.1.1.n z2.1.1.tn z2.1.1.S z2.1.1.e z2.1.1.B z2.1.1.e1++([(X.cod0,fds "code" cv0),(V.td,lst us ue)]++((lexL w.params Y m tm SY eY BY eB).eraseIdx 7++[(lb1,lst v1 x1),(V.o1,tup [.int f1 u1,.ref lb1] 0),(lb2,lst v2 x2),(V.o2,tup [.int f2 u2,.ref lb2] 0),(lb3,lst v3 x3),(V.o3,tup [.int f3 u3,.ref lb3] 0),(lb4,lst v4 x4),(V.o4,tup [.int f4 u4,.ref lb4] 0),(V.du,lst [.int m1 t1,.int m2 t2] 0)])))) h2:=by rw [← List.append_nil ([(sc,lst ss e),(111,tab2 X.cod0 X.cod),(aF,frW w.params V 16),(aC,cel (some (.ref X.a))),(V.sp,lst sv se)]++(lexL w.params X z2.1.1.n z2.1.1.tn z2.1.1.S z2.1.1.e z2.1.1.B z2.1.1.e1++([(X.cod0,fds "code" cv0),(V.td,lst us ue)]++((lexL w.params Y m tm SY eY BY eB).eraseIdx 7++[(lb1,lst v1 x1),(V.o1,tup [.int f1 u1,.ref lb1] 0),(lb2,lst v2 x2),(V.o2,tup [.int f2 u2,.ref lb2] 0),(lb3,lst v3 x3),(V.o3,tup [.int f3 u3,.ref lb3] 0),(lb4,lst v4 x4),(V.o4,tup [.int f4 u4,.ref lb4] 0),(V.du,lst [.int m1 t1,.int m2 t2] 0)]))))]; exact D2
  show wpOwn (model PG w) A (cd147 aF aC) (execs (lawS 20 1) _) _ _ _
  refine (sc_s20 (X:=X) (Y:=Y) O ho hV.cnt rfl (z2.2.1.trans (Int.add_comm ..)) (hm.trans (Int.add_comm ..))).use2 hz hd hu D2' hN2 [2,3,5,6,16,17] (.ret (.bool true)) (by decide) rfl (fun _=>rfl) (fun z=>[(sc,lst ss e),(111,tab2 X.cod0 X.cod),(aF,frW w.params V 16),(aC,cel (some (.ref X.a))),(V.sp,lst sv se)]++(lexL w.params X z2.1.1.n z2.1.1.tn z2.1.1.S z2.1.1.e z2.1.1.B z2.1.1.e1++([(X.cod0,fds "code" cv0),(V.td,lst us ue)]++((lexL w.params Y m tm SY eY BY eB).eraseIdx 7++[(lb1,lst v1 x1),(V.o1,tup [.int f1 u1,.ref lb1] 0),(lb2,lst v2 x2),(V.o2,tup [.int f2 u2,.ref lb2] 0),(lb3,lst v3 x3),(V.o3,tup [.int f3 u3,.ref lb3] 0),(lb4,lst v4 x4),(V.o4,tup [.int f4 u4,.ref lb4] 0),(V.du,lst [.int m1 t1,.int m2 t2] 0)])))) (fun _=>rfl) fun z3 h3 hN3 D3=>?_
  exact hQ _ _ X.cod0 X.cod ([(aF,frW w.params V 16),(aC,cel (some (.ref X.a))),(V.sp,lst sv se)]++(lexL w.params X z2.1.1.n z2.1.1.tn z2.1.1.S z2.1.1.e z2.1.1.B z2.1.1.e1++([(X.cod0,fds "code" cv0),(V.td,lst us ue)]++((lexL w.params Y m tm SY eY BY eB).eraseIdx 7++[(lb1,lst v1 x1),(V.o1,tup [.int f1 u1,.ref lb1] 0),(lb2,lst v2 x2),(V.o2,tup [.int f2 u2,.ref lb2] 0),(lb3,lst v3 x3),(V.o3,tup [.int f3 u3,.ref lb3] 0),(lb4,lst v4 x4),(V.o4,tup [.int f4 u4,.ref lb4] 0),(V.du,lst [.int m1 t1,.int m2 t2] 0)])))) _ (by rw [← List.append_nil (_++_)]; exact D3) hN3
theorem lawC {sv us:List Value} {se ue:Nat} {X:LX} {cv0:List Value} {Y:LX} {q:LS} {m:Int} {tm:Tok} {SY BY:List Value} {eY eB:Nat} {lb1:Addr} {v1:List Value} {x1:Nat} {f1:Int} {u1:Tok} {lb2:Addr} {v2:List Value} {x2:Nat} {f2:Int} {u2:Tok} {lb3:Addr} {v3:List Value} {x3:Nat} {f3:Int} {u3:Tok} {lb4:Addr} {v4:List Value} {x4:Nat} {f4:Int} {u4:Tok} (hX:codeHas (fds "code" X.cvs) qLam = true) (hsv:TX sv (stripF nums)) (ho:V.oth = Y.a) (hqn:q.n = nlN nums) (hqS:q.S = []) (hqB:TX q.B (r2F nums V.sm.toNat V.wd.toNat).1) (h2:TX v2 (r2F nums V.sm.toNat V.wd.toNat).1) (h4:TX v4 (r2F nums V.sm.toNat V.wd.toNat).1) (hm:m = nlN nums) (hf1:f1 = (r1F nums V.sm.toNat V.wd.toNat).2) (hf2:f2 = (r2F nums V.sm.toNat V.wd.toNat).2) (hf3:f3 = (r3F nums V.sm.toNat V.wd.toNat).2) (hf4:f4 = (r4F nums V.sm.toNat V.wd.toNat).2)
    (D:Rep (cfg b w.params) S' h₀ ([(sc,lst ss e),(111,tab2 X.cod0 X.cod),(aF,frW w.params V 15),(aC,cel (some (.ref X.a))),(V.sp,lst sv se)]++(lexL w.params X q.n q.tn q.S q.e q.B q.e1++([(X.cod0,fds "code" cv0),(V.td,lst us ue)]++((lexL w.params Y m tm SY eY BY eB).eraseIdx 7++[(lb1,lst v1 x1),(V.o1,tup [.int f1 u1,.ref lb1] 0),(lb2,lst v2 x2),(V.o2,tup [.int f2 u2,.ref lb2] 0),(lb3,lst v3 x3),(V.o3,tup [.int f3 u3,.ref lb3] 0),(lb4,lst v4 x4),(V.o4,tup [.int f4 u4,.ref lb4] 0)])))) h) (hN:h.objs.size = N):wpOwn (model PG w) A (cd147 aF aC) (execs lR16 (env147 aF aC)) Q (fun _ _=>False) ⟨h,g,dr,T,os⟩:=by
  have h2':=h2
  have h12:=hV.n12
  have hs:sizeLine = 16777216:=by decide
  have h0:stripF nums ≠ []:=by intro h; have:=congrArg List.length h; simp [stripF] at this; have:=hV.lo; simp_all
  have hsl:(stripF nums).length < 64:=by have:=hV.hi; simp [stripF]; omega
  show wpOwn (model PG w) A (cd147 aF aC) (execs (lawS 16 1++lR17) _) _ _ _
  refine own_execs_app ?_
  refine (sc_s16 O h2 h4 hsv (by rw [r2F_len]; omega) hsl rfl rfl hV.chk.join rfl (by have:=hV.chk.len; omega) hV.chk.t1 hV.chk.t2).use2 hz hd hu D hN [2,27,31,26,30,4] .next (by decide) rfl (fun _=>rfl) (fun z=>[(sc,lst ss e),(111,tab2 X.cod0 X.cod),(aF,frW w.params V 15),(aC,cel (some (.ref X.a))),(V.sp,lst sv se)]++(lexL w.params X q.n q.tn q.S q.e q.B q.e1++([(X.cod0,fds "code" cv0),(V.td,lst us ue)]++((lexL w.params Y m tm SY eY BY eB).eraseIdx 7++[(lb1,lst v1 x1),(V.o1,tup [.int f1 u1,.ref lb1] 0),(lb2,lst v2 x2),(V.o2,tup [.int f2 u2,.ref lb2] 0),(lb3,lst v3 x3),(V.o3,tup [.int f3 u3,.ref lb3] 0),(lb4,lst v4 x4),(V.o4,tup [.int f4 u4,.ref lb4] 0)])))) (fun _=>rfl) fun z1 h1 hN1 D1=>?_
  have D1':Rep (cfg b w.params) S' h₀ ([(sc,lst ss e),(111,tab2 X.cod0 X.cod),(aF,frW w.params V 15),(aC,cel (some (.ref X.a))),(V.sp,lst sv se)]++(lexL w.params X q.n q.tn q.S q.e q.B q.e1++([(X.cod0,fds "code" cv0),(V.td,lst us ue)]++((lexL w.params Y m tm SY eY BY eB).eraseIdx 7++[(lb1,lst v1 x1),(V.o1,tup [.int f1 u1,.ref lb1] 0),(lb2,lst v2 x2),(V.o2,tup [.int f2 u2,.ref lb2] 0),(lb3,lst v3 x3),(V.o3,tup [.int f3 u3,.ref lb3] 0),(lb4,lst v4 x4),(V.o4,tup [.int f4 u4,.ref lb4] 0)])))) h1:=by rw [← List.append_nil ([(sc,lst ss e),(111,tab2 X.cod0 X.cod),(aF,frW w.params V 15),(aC,cel (some (.ref X.a))),(V.sp,lst sv se)]++(lexL w.params X q.n q.tn q.S q.e q.B q.e1++([(X.cod0,fds "code" cv0),(V.td,lst us ue)]++((lexL w.params Y m tm SY eY BY eB).eraseIdx 7++[(lb1,lst v1 x1),(V.o1,tup [.int f1 u1,.ref lb1] 0),(lb2,lst v2 x2),(V.o2,tup [.int f2 u2,.ref lb2] 0),(lb3,lst v3 x3),(V.o3,tup [.int f3 u3,.ref lb3] 0),(lb4,lst v4 x4),(V.o4,tup [.int f4 u4,.ref lb4] 0)]))))]; exact D1
  show wpOwn (model PG w) A (cd147 aF aC) (execs (lawS 17 1++lR18) _) _ _ _
  refine own_execs_app ?_
  refine (sc_s17 (V:=V) O hsv h0 hV.sm hV.wd hV.chk.ok1 hV.chk.ok2 rfl rfl).use2 hz hd hu D1' hN1 [2,4] .next (by decide) rfl (fun _=>rfl) (fun z=>[(sc,lst ss e),(111,tab2 X.cod0 X.cod),(aF,frW w.params { V with du:=z.2.1,k:=kW V.k 15 z.2.2.1 } 16),(aC,cel (some (.ref X.a))),(V.sp,lst sv se)]++(lexL w.params X q.n q.tn q.S q.e q.B q.e1++([(X.cod0,fds "code" cv0),(V.td,lst us ue)]++((lexL w.params Y m tm SY eY BY eB).eraseIdx 7++[(lb1,lst v1 x1),(V.o1,tup [.int f1 u1,.ref lb1] 0),(lb2,lst v2 x2),(V.o2,tup [.int f2 u2,.ref lb2] 0),(lb3,lst v3 x3),(V.o3,tup [.int f3 u3,.ref lb3] 0),(lb4,lst v4 x4),(V.o4,tup [.int f4 u4,.ref lb4] 0)])))) (fun _=>rfl) fun z2 h2 hN2 D2=>?_
  exact lawD (V:={ V with du:=z2.2.1,k:=kW V.k 15 z2.2.2.1 }) O hz hd hu hQ (hV.to _ rfl rfl rfl rfl rfl) hX hsv ho hqn hqS hqB h2' hm (hf1.trans hV.chk.m1.symm) (hf2.trans hV.chk.m2.symm) (hf3.trans hV.chk.m3.symm) (hf4.trans hV.chk.m4.symm) D2 hN2
end
end
end Mine
end
section
namespace Mine
section
open PyProof.Rows
section
variable {w:World} {b:Bool} (O:(cfg b w.params).Ok PG w)
variable {A:Around} {S':List Addr} {h₀:Heap} {g:Array GenState} {dr:Drawn} {os:OsState} {aF aC sc:Addr} {ss:List Value} {e:Nat} {Q:Flow → Shared → Prop} (hz:A.handled = none) (hd:A.depth ≤ 530) (hu:A.units ≤ 5300) (hQ:EndQ w b S' h₀ sc ss e g dr os Q) {nums:List Int} {V:WV} (hV:VF nums V) {h:Heap} {N T:Nat}
include O hz hd hu hQ hV
theorem law15 {sv us:List Value} {se ue:Nat} {X:LX} {cv0:List Value} {Y:LX} {q qY:LS} {lb1:Addr} {v1:List Value} {x1:Nat} {f1:Int} {u1:Tok} {lb2:Addr} {v2:List Value} {x2:Nat} {f2:Int} {u2:Tok} {lb3:Addr} {v3:List Value} {x3:Nat} {f3:Int} {u3:Tok} (hX:codeHas (fds "code" X.cvs) qLam = true) (hsv:TX sv (stripF nums)) (ho:V.oth = Y.a) (hYc:Y.cod = X.cod) (hYv:Y.cvs = X.cvs) (hqn:q.n = nlN nums) (hqS:q.S = []) (hqB:TX q.B (r2F nums V.sm.toNat V.wd.toNat).1) (h2:TX v2 (r2F nums V.sm.toNat V.wd.toNat).1) (hyn:qY.n = nlN nums) (hyS:qY.S = []) (hyB:TX qY.B (r3F nums V.sm.toNat V.wd.toNat).1) (hf1:f1 = (r1F nums V.sm.toNat V.wd.toNat).2) (hf2:f2 = (r2F nums V.sm.toNat V.wd.toNat).2) (hf3:f3 = (r3F nums V.sm.toNat V.wd.toNat).2)
    (D:Rep (cfg b w.params) S' h₀ ([(sc,lst ss e),(111,tab2 X.cod0 X.cod),(aF,frW w.params V 14),(aC,cel (some (.ref X.a))),(V.sp,lst sv se)]++(lexL w.params X q.n q.tn q.S q.e q.B q.e1++([(X.cod0,fds "code" cv0),(V.td,lst us ue)]++((lexL w.params Y qY.n qY.tn qY.S qY.e qY.B qY.e1).eraseIdx 7++[(lb1,lst v1 x1),(V.o1,tup [.int f1 u1,.ref lb1] 0),(lb2,lst v2 x2),(V.o2,tup [.int f2 u2,.ref lb2] 0),(lb3,lst v3 x3),(V.o3,tup [.int f3 u3,.ref lb3] 0)])))) h) (hN:h.objs.size = N):wpOwn (model PG w) A (cd147 aF aC) (execs lR15 (env147 aF aC)) Q (fun _ _=>False) ⟨h,g,dr,T,os⟩:=by
  show wpOwn (model PG w) A (cd147 aF aC) (execs (lawS 15 1++lR16) _) _ _ _
  refine own_execs_app ?_
  have hy:=yields_q O (X:=Y) (by rw [hYv]; exact hX) hyn hyS hyB (by rw [r3F_len]; exact Nat.le_trans hV.n12 (by decide)) 0
  rw [List.replicate_zero,List.append_nil] at hy
  refine (sc_s15 (X:=Y) (q:=qY) (V:=V) O ho hV.sm (by rw [r3F_len]; exact hV.szN) hV.sz8 hy).use2 hz hd hu D hN [16,17,18,19,20,21,22,12,23,2] .next (by decide) (by rw [lexL_sw hYc hYv]; rfl) (fun _=>rfl) (fun z=>[(sc,lst ss e),(111,tab2 X.cod0 X.cod),(aF,frW w.params { V with o4:=z.1.tu,k:=kW V.k 14 z.1.T } 15),(aC,cel (some (.ref X.a))),(V.sp,lst sv se)]++(lexL w.params X q.n q.tn q.S q.e q.B q.e1++([(X.cod0,fds "code" cv0),(V.td,lst us ue)]++((lexL w.params Y z.1.q.n z.1.q.tn z.1.q.S z.1.q.e z.1.q.B z.1.q.e1).eraseIdx 7++[(lb1,lst v1 x1),(V.o1,tup [.int f1 u1,.ref lb1] 0),(lb2,lst v2 x2),(V.o2,tup [.int f2 u2,.ref lb2] 0),(lb3,lst v3 x3),(V.o3,tup [.int f3 u3,.ref lb3] 0)])))) (fun z=>by show setsL _ (lexO w.params Y _ _ _ _ _ _++_) _ = _; rw [lexO_sw hYv]; rfl) fun z1 h1 hN1 D1=>?_
  exact lawC (V:={ V with o4:=z1.1.tu,k:=kW V.k 14 z1.1.T }) (lb4:=z1.1.lb) (v4:=z1.1.bs) (x4:=z1.1.e2) (f4:=z1.1.f) (u4:=z1.1.tf) O hz hd hu hQ (hV.to _ rfl rfl rfl rfl rfl) hX hsv ho hqn hqS hqB h2 (by rw [hV.chk.same]; exact z1.2.2.2.2.1) z1.2.1 hf1 hf2 hf3 z1.2.2.2.2.2 D1 hN1
theorem law14 {sv us:List Value} {se ue:Nat} {X:LX} {cv0:List Value} {Y:LX} {q:LS} {tnY:Tok} {SY:List Value} {eY:Nat} {lb1:Addr} {v1:List Value} {x1:Nat} {f1:Int} {u1:Tok} {lb2:Addr} {v2:List Value} {x2:Nat} {f2:Int} {u2:Tok} (hX:codeHas (fds "code" X.cvs) qLam = true) (hsv:TX sv (stripF nums)) (ho:V.oth = Y.a) (hYc:Y.cod = X.cod) (hYv:Y.cvs = X.cvs) (hqn:q.n = nlN nums) (hqS:q.S = []) (hqB:TX q.B (r2F nums V.sm.toNat V.wd.toNat).1) (h2:TX v2 (r2F nums V.sm.toNat V.wd.toNat).1) (hSY:WdOf (ksI nums) SY) (hf1:f1 = (r1F nums V.sm.toNat V.wd.toNat).2) (hf2:f2 = (r2F nums V.sm.toNat V.wd.toNat).2)
    (D:Rep (cfg b w.params) S' h₀ ([(sc,lst ss e),(111,tab2 X.cod0 X.cod),(aF,frW w.params V 13),(aC,cel (some (.ref X.a))),(V.sp,lst sv se)]++(lexL w.params X q.n q.tn q.S q.e q.B q.e1++([(X.cod0,fds "code" cv0),(V.td,lst us ue)]++((lexL w.params Y 1 tnY SY eY [] 0).eraseIdx 7++[(lb1,lst v1 x1),(V.o1,tup [.int f1 u1,.ref lb1] 0),(lb2,lst v2 x2),(V.o2,tup [.int f2 u2,.ref lb2] 0)])))) h) (hN:h.objs.size = N):wpOwn (model PG w) A (cd147 aF aC) (execs lR14 (env147 aF aC)) Q (fun _ _=>False) ⟨h,g,dr,T,os⟩:=by
  show wpOwn (model PG w) A (cd147 aF aC) (execs (lawS 14 1++lR15) _) _ _ _
  refine own_execs_app ?_
  have hy:=yields_w (tn:=tnY) (e:=eY) (e1:=0) (k:=V.sm.toNat + V.wd.toNat) O (X:=Y) (by rw [hYv]; exact hX) hV.hi hSY
  refine (sc_s14 (ws:=wordF nums V.sm.toNat V.wd.toNat) (X:=Y) (q:=⟨1,tnY,SY,eY,[],0⟩) (V:=V) O ho hV.wd (by rw [wordF_len]; exact hV.szN) hV.sz8 hy).use2 hz hd hu D hN [16,17,18,19,20,21,22,12,23,2] .next (by decide) (by rw [lexL_sw hYc hYv]; rfl) (fun _=>rfl) (fun z=>[(sc,lst ss e),(111,tab2 X.cod0 X.cod),(aF,frW w.params { V with o3:=z.1.tu,k:=kW V.k 13 z.1.T } 14),(aC,cel (some (.ref X.a))),(V.sp,lst sv se)]++(lexL w.params X q.n q.tn q.S q.e q.B q.e1++([(X.cod0,fds "code" cv0),(V.td,lst us ue)]++((lexL w.params Y z.1.q.n z.1.q.tn z.1.q.S z.1.q.e z.1.q.B z.1.q.e1).eraseIdx 7++[(lb1,lst v1 x1),(V.o1,tup [.int f1 u1,.ref lb1] 0),(lb2,lst v2 x2),(V.o2,tup [.int f2 u2,.ref lb2] 0)])))) (fun z=>by show setsL _ (lexO w.params Y _ _ _ _ _ _++_) _ = _; rw [lexO_sw hYv]; rfl) fun z1 h1 hN1 D1=>?_
  exact law15 (V:={ V with o3:=z1.1.tu,k:=kW V.k 13 z1.1.T }) (lb3:=z1.1.lb) (v3:=z1.1.bs) (x3:=z1.1.e2) (f3:=z1.1.f) (u3:=z1.1.tf) (qY:=z1.1.q) O hz hd hu hQ (hV.to _ rfl rfl rfl rfl rfl) hX hsv ho hYc hYv hqn hqS hqB h2 z1.2.1 z1.2.2.1 (by have h5:z1.1.q.B = z1.1.bs:=z1.2.2.2.1; rw [h5]; exact z1.2.2.2.2.1) hf1 hf2 z1.2.2.2.2.2 D1 hN1
theorem law13 {sv us:List Value} {se ue:Nat} {X:LX} {cv0:List Value} {Y:LX} {q:LS} {tnY:Tok} {SY:List Value} {eY:Nat} {lb1:Addr} {v1:List Value} {x1:Nat} {f1:Int} {u1:Tok} (hX:codeHas (fds "code" X.cvs) qLam = true) (hsv:TX sv (stripF nums)) (ho:V.oth = Y.a) (hYc:Y.cod = X.cod) (hYv:Y.cvs = X.cvs) (hqn:q.n = nlN nums) (hqS:q.S = []) (hqB:TX q.B (r1F nums V.sm.toNat V.wd.toNat).1) (hSY:WdOf (ksI nums) SY) (hf1:f1 = (r1F nums V.sm.toNat V.wd.toNat).2)
    (D:Rep (cfg b w.params) S' h₀ ([(sc,lst ss e),(111,tab2 X.cod0 X.cod),(aF,frW w.params V 12),(aC,cel (some (.ref X.a))),(V.sp,lst sv se)]++(lexL w.params X q.n q.tn q.S q.e q.B q.e1++([(X.cod0,fds "code" cv0),(V.td,lst us ue)]++((lexL w.params Y 1 tnY SY eY [] 0).eraseIdx 7++[(lb1,lst v1 x1),(V.o1,tup [.int f1 u1,.ref lb1] 0)])))) h) (hN:h.objs.size = N):wpOwn (model PG w) A (cd147 aF aC) (execs lR13 (env147 aF aC)) Q (fun _ _=>False) ⟨h,g,dr,T,os⟩:=by
  show wpOwn (model PG w) A (cd147 aF aC) (execs (lawS 13 1++lR14) _) _ _ _
  refine own_execs_app ?_
  have hy:=yields_q O (X:=X) hX hqn hqS hqB (by rw [r1F_len]; exact Nat.le_trans hV.n12 (by decide)) 0
  rw [List.replicate_zero,List.append_nil] at hy
  refine (sc_s13 (ws:=(r1F nums V.sm.toNat V.wd.toNat).1) (X:=X) (q:=q) (V:=V) O hV.wd (by rw [r1F_len]; exact hV.szN) hV.sz8 hy).use2 hz hd hu D hN [5,6,7,8,9,10,11,12,13,3,2] .next (by decide) rfl (fun _=>rfl) (fun z=>[(sc,lst ss e),(111,tab2 X.cod0 X.cod),(aF,frW w.params { V with o2:=z.1.tu,k:=kW V.k 12 z.1.T } 13),(aC,cel (some (.ref X.a))),(V.sp,lst sv se)]++(lexL w.params X z.1.q.n z.1.q.tn z.1.q.S z.1.q.e z.1.q.B z.1.q.e1++([(X.cod0,fds "code" cv0),(V.td,lst us ue)]++((lexL w.params Y 1 tnY SY eY [] 0).eraseIdx 7++[(lb1,lst v1 x1),(V.o1,tup [.int f1 u1,.ref lb1] 0)])))) (fun _=>rfl) fun z1 h1 hN1 D1=>?_
  exact law14 (V:={ V with o2:=z1.1.tu,k:=kW V.k 12 z1.1.T }) (lb2:=z1.1.lb) (v2:=z1.1.bs) (x2:=z1.1.e2) (f2:=z1.1.f) (u2:=z1.1.tf) (q:=z1.1.q) O hz hd hu hQ (hV.to _ rfl rfl rfl rfl rfl) hX hsv ho hYc hYv z1.2.1 z1.2.2.1 (by have h5:z1.1.q.B = z1.1.bs:=z1.2.2.2.1; rw [h5]; exact z1.2.2.2.2.1) z1.2.2.2.2.1 hSY hf1 z1.2.2.2.2.2 D1 hN1
theorem law12 {sv us:List Value} {se ue:Nat} {X:LX} {cv0:List Value} {Y:LX} {q:LS} {tnY:Tok} {SY:List Value} {eY:Nat} (hX:codeHas (fds "code" X.cvs) qLam = true) (hsv:TX sv (stripF nums)) (ho:V.oth = Y.a) (hYc:Y.cod = X.cod) (hYv:Y.cvs = X.cvs) (hqn:q.n = nlN nums) (hqS:q.S = []) (hqB:TX q.B (stripF nums)) (hSY:WdOf (ksI nums) SY)
    (D:Rep (cfg b w.params) S' h₀ ([(sc,lst ss e),(111,tab2 X.cod0 X.cod),(aF,frW w.params V 11),(aC,cel (some (.ref X.a))),(V.sp,lst sv se)]++(lexL w.params X q.n q.tn q.S q.e q.B q.e1++([(X.cod0,fds "code" cv0),(V.td,lst us ue)]++((lexL w.params Y 1 tnY SY eY [] 0).eraseIdx 7)))) h) (hN:h.objs.size = N):wpOwn (model PG w) A (cd147 aF aC) (execs lR12 (env147 aF aC)) Q (fun _ _=>False) ⟨h,g,dr,T,os⟩:=by
  show wpOwn (model PG w) A (cd147 aF aC) (execs (lawS 12 1++lR13) _) _ _ _
  refine own_execs_app ?_
  have hy:=yields_q O (X:=X) hX hqn hqS hqB (by simp [stripF]; have:=hV.hi; omega) (V.sm.toNat + V.wd.toNat)
  refine (sc_s12 (ws:=wordF nums V.sm.toNat V.wd.toNat) (X:=X) (q:=q) (V:=V) O hV.sm (by rw [wordF_len]; exact hV.szN) hV.sz8 hy).use2 hz hd hu D hN [5,6,7,8,9,10,11,12,13,3,2] .next (by decide) rfl (fun _=>rfl) (fun z=>[(sc,lst ss e),(111,tab2 X.cod0 X.cod),(aF,frW w.params { V with o1:=z.1.tu,k:=kW V.k 11 z.1.T } 12),(aC,cel (some (.ref X.a))),(V.sp,lst sv se)]++(lexL w.params X z.1.q.n z.1.q.tn z.1.q.S z.1.q.e z.1.q.B z.1.q.e1++([(X.cod0,fds "code" cv0),(V.td,lst us ue)]++((lexL w.params Y 1 tnY SY eY [] 0).eraseIdx 7)))) (fun _=>rfl) fun z1 h1 hN1 D1=>?_
  exact law13 (V:={ V with o1:=z1.1.tu,k:=kW V.k 11 z1.1.T }) (lb1:=z1.1.lb) (v1:=z1.1.bs) (x1:=z1.1.e2) (f1:=z1.1.f) (u1:=z1.1.tf) (q:=z1.1.q) O hz hd hu hQ (hV.to _ rfl rfl rfl rfl rfl) hX hsv ho hYc hYv z1.2.1 z1.2.2.1 (by have h5:z1.1.q.B = z1.1.bs:=z1.2.2.2.1; rw [h5]; exact z1.2.2.2.2.1) hSY z1.2.2.2.2.2 D1 hN1
theorem law9 {sv us:List Value} {se ue:Nat} {X:LX} {cv0:List Value} {Y:LX} {q:LS} {tnY:Tok} {SY:List Value} {eY:Nat} (hX:codeHas (fds "code" X.cvs) qLam = true) (hsv:TX sv (stripF nums)) (ho:V.oth = Y.a) (hYc:Y.cod = X.cod) (hYv:Y.cvs = X.cvs) (hqn:q.n = nlN nums) (hqS:q.S = []) (hqB:TX q.B (stripF nums)) (hSY:WdOf (ksI nums) SY)
    (D:Rep (cfg b w.params) S' h₀ ([(sc,lst ss e),(111,tab2 X.cod0 X.cod),(aF,frW w.params V 8),(aC,cel (some (.ref X.a))),(V.sp,lst sv se)]++(lexL w.params X q.n q.tn q.S q.e q.B q.e1++([(X.cod0,fds "code" cv0),(V.td,lst us ue)]++((lexL w.params Y 1 tnY SY eY [] 0).eraseIdx 7)))) h) (hN:h.objs.size = N):wpOwn (model PG w) A (cd147 aF aC) (execs lR9 (env147 aF aC)) Q (fun _ _=>False) ⟨h,g,dr,T,os⟩:=by
  show wpOwn (model PG w) A (cd147 aF aC) (execs (lawS 9 3++lR12) _) _ _ _
  refine own_execs_app ?_
  have hsl:sv.length = nums.length:=by rw [hsv.len]; simp [stripF]
  refine (sc_s9 (T:=T) (V:=V) O (by rw [hsl]; have:=hV.hi; omega) hV.sme hV.wde (by rw [hsl]; exact hV.sz)).use2 hz hd hu D hN [2,4] .next (by decide) rfl (fun _=>rfl) (fun z=>[(sc,lst ss e),(111,tab2 X.cod0 X.cod),(aF,frW w.params { V with k:=k9 V.k T } 11),(aC,cel (some (.ref X.a))),(V.sp,lst sv se)]++(lexL w.params X q.n q.tn q.S q.e q.B q.e1++([(X.cod0,fds "code" cv0),(V.td,lst us ue)]++((lexL w.params Y 1 tnY SY eY [] 0).eraseIdx 7)))) (fun _=>rfl) fun z1 h1 hN1 D1=>?_
  exact law12 (V:={ V with k:=k9 V.k T }) (q:=q) O hz hd hu hQ (hV.to _ rfl rfl rfl rfl rfl) hX hsv ho hYc hYv hqn hqS hqB hSY (by rw [← List.append_nil (_++_)]; exact D1) hN1
end
end
end Mine
end
section
namespace Mine
section
open PyProof.Rows
section
variable {w:World} {b:Bool} (O:(cfg b w.params).Ok PG w)
variable {A:Around} {S':List Addr} {h₀:Heap} {g:Array GenState} {dr:Drawn} {os:OsState} {aF aC sc:Addr} {ss:List Value} {e:Nat} {Q:Flow → Shared → Prop} (hz:A.handled = none) (hd:A.depth ≤ 530) (hu:A.units ≤ 5300) (hQ:EndQ w b S' h₀ sc ss e g dr os Q) {nums:List Int} {V:WV} (hV:VF nums V) {h:Heap} {N T:Nat}
include O hz hd hu hQ hV
theorem law8 {sv us:List Value} {se ue:Nat} {X:LX} {cv0:List Value} {q:LS} (hX:codeHas (fds "code" X.cvs) qLam = true) (hsv:TX sv (stripF nums)) (hqn:q.n = nlN nums) (hqS:q.S = []) (hqB:TX q.B (stripF nums))
    (D:Rep (cfg b w.params) S' h₀ ([(sc,lst ss e),(111,tab2 X.cod0 X.cod),(aF,frW w.params V 7),(aC,cel (some (.ref X.a))),(V.sp,lst sv se)]++(lexL w.params X q.n q.tn q.S q.e q.B q.e1++[(X.cod0,fds "code" cv0),(V.td,lst us ue)])) h) (hN:h.objs.size = N):wpOwn (model PG w) A (cd147 aF aC) (execs lR8 (env147 aF aC)) Q (fun _ _=>False) ⟨h,g,dr,T,os⟩:=by
  show wpOwn (model PG w) A (cd147 aF aC) (execs (lawS 8 1++lR9) _) _ _ _
  refine own_execs_app ?_
  refine (sc_s8 (V:=V) (nums:=nums) (c0:=X.cod0) (c1:=X.cod) (cv0:=cv0) (cv1:=X.cvs) O hV.tx (by rw [hV.tx]; exact tx_size nums hV.hi) hX).use2 hz hd hu D hN [1,14,12,2] .next (by decide) rfl (fun _=>rfl) (fun z=>[(sc,lst ss e),(111,tab2 X.cod0 X.cod),(aF,frW w.params { V with oth:=z.1.X.a,k:=kW V.k 7 z.1.T } 8),(aC,cel (some (.ref X.a))),(V.sp,lst sv se)]++(lexL w.params X q.n q.tn q.S q.e q.B q.e1++[(X.cod0,fds "code" cv0),(V.td,lst us ue)])) (fun _=>rfl) fun z1 h1 hN1 D1=>?_
  have hn1:z1.1.n = 1:=z1.2.1.1
  rw [hn1] at D1
  exact law9 (V:={ V with oth:=z1.1.X.a,k:=kW V.k 7 z1.1.T }) (q:=q) (Y:=z1.1.X) O hz hd hu hQ (hV.to _ rfl rfl rfl rfl rfl) hX hsv rfl z1.2.2.2.1 z1.2.2.2.2 hqn hqS hqB z1.2.1.2.1 D1 hN1
theorem law6 {sv us:List Value} {se ue:Nat} {X:LX} {cv0:List Value} {n:Int} {tn:Tok} {eS eB:Nat} (hX:codeHas (fds "code" X.cvs) qLam = true) (hsv:TX sv (stripF nums)) (hus:TX us (stripF nums)) (hn:n = nlN nums)
    (D:Rep (cfg b w.params) S' h₀ ([(sc,lst ss e),(111,tab2 X.cod0 X.cod),(aF,frW w.params V 7),(aC,cel (some (.ref X.a))),(V.sp,lst sv se)]++(lexL w.params X n tn [] eS [] eB++[(X.cod0,fds "code" cv0),(V.td,lst us ue)])) h) (hN:h.objs.size = N):wpOwn (model PG w) A (cd147 aF aC) (execs lR6 (env147 aF aC)) Q (fun _ _=>False) ⟨h,g,dr,T,os⟩:=by
  show wpOwn (model PG w) A (cd147 aF aC) (execs (lawS 6 1++lR7) _) _ _ _
  refine own_execs_app ?_
  refine (sc_s6 (V:=V) O hus hsv).use2 hz hd hu D hN [2,15,4] .next (by decide) rfl (fun _=>rfl) (fun z=>[(sc,lst ss e),(111,tab2 X.cod0 X.cod),(aF,frW w.params V 7),(aC,cel (some (.ref X.a))),(V.sp,lst sv se)]++(lexL w.params X n tn [] eS [] eB++[(X.cod0,fds "code" cv0),(V.td,lst us ue)])) (fun _=>rfl) fun z1 h1 hN1 D1=>?_
  have D1':Rep (cfg b w.params) S' h₀ ([(sc,lst ss e),(111,tab2 X.cod0 X.cod),(aF,frW w.params V 7),(aC,cel (some (.ref X.a))),(V.sp,lst sv se)]++(lexL w.params X n tn [] eS [] eB++[(X.cod0,fds "code" cv0),(V.td,lst us ue)])) h1:=by rw [← List.append_nil ([(sc,lst ss e),(111,tab2 X.cod0 X.cod),(aF,frW w.params V 7),(aC,cel (some (.ref X.a))),(V.sp,lst sv se)]++(lexL w.params X n tn [] eS [] eB++[(X.cod0,fds "code" cv0),(V.td,lst us ue)]))]; exact D1
  show wpOwn (model PG w) A (cd147 aF aC) (execs (lawS 7 1++lR8) _) _ _ _
  refine own_execs_app ?_
  refine (sc_s7 (V:=V) (X:=X) O (stripF nums) hus (by simp [stripF]; have:=hV.hi; omega)).use2 hz hd hu D1' hN1 [5,6,7,8,9,10,11,12,13,2,3,15] .next (by decide) rfl (fun _=>rfl) (fun z=>[(sc,lst ss e),(111,tab2 X.cod0 X.cod),(aF,frW w.params { V with bx:=z.1.bx,k:=z.1.k } 7),(aC,cel (some (.ref X.a))),(V.sp,lst sv se)]++(lexL w.params X n tn [] eS us z.1.e1++[(X.cod0,fds "code" cv0),(V.td,lst us ue)])) (fun _=>rfl) fun z2 h2 hN2 D2=>?_
  exact law8 (V:={ V with bx:=z2.1.bx,k:=z2.1.k }) (q:=⟨n,tn,[],eS,us,z2.1.e1⟩) O hz hd hu hQ (hV.to _ rfl rfl rfl rfl rfl) hX hsv hn rfl hus (by rw [← List.append_nil (_++_)]; exact D2) hN2
theorem law5 {sv:List Value} {se:Nat} {X:LX} {cv0:List Value} {tn:Tok} {SX:List Value} {eS:Nat} (hX:codeHas (fds "code" X.cvs) qLam = true) (hsv:TX sv (stripF nums)) (hSX:WdOf (ksI nums) SX)
    (D:Rep (cfg b w.params) S' h₀ ([(sc,lst ss e),(111,tab2 X.cod0 X.cod),(aF,frW w.params V 6),(aC,cel (some (.ref X.a))),(V.sp,lst sv se)]++(lexL w.params X 1 tn SX eS [] 0++[(X.cod0,fds "code" cv0)])) h) (hN:h.objs.size = N):wpOwn (model PG w) A (cd147 aF aC) (execs lR5 (env147 aF aC)) Q (fun _ _=>False) ⟨h,g,dr,T,os⟩:=by
  show wpOwn (model PG w) A (cd147 aF aC) (execs (lawS 5 1++lR6) _) _ _ _
  refine own_execs_app ?_
  have hy:=yields_w (tn:=tn) (e:=eS) (e1:=0) (k:=0) O (X:=X) hX hV.hi hSX
  rw [List.replicate_zero,List.append_nil] at hy
  have h0:stripF nums ≠ []:=by intro h; have:=congrArg List.length h; simp [stripF] at this; have:=hV.lo; simp_all
  refine (sc_s5 (V:=V) (X:=X) (q:=⟨1,tn,SX,eS,[],0⟩) O ⟨nlN nums,0,[],0,[],0⟩ ⟨rfl,rfl,rfl⟩ (stripF nums) hsv rfl h0 (by simp [stripF]; have:=hV.hi; omega) hy).use2 hz hd hu D hN [5,6,7,8,9,10,11,12,13,3,2,4] .next (by decide) rfl (fun _=>rfl) (fun z=>[(sc,lst ss e),(111,tab2 X.cod0 X.cod),(aF,frW w.params { V with td:=N + 1,k:=kW V.k 6 z.1.T } 7),(aC,cel (some (.ref X.a))),(V.sp,lst sv se)]++(lexL w.params X z.1.q.n z.1.q.tn z.1.q.S z.1.q.e z.1.q.B z.1.q.e1++[(X.cod0,fds "code" cv0)])) (fun _=>rfl) fun z1 h1 hN1 D1=>?_
  rw [show z1.1.q.S = [] from z1.2.1.2.1,show z1.1.q.B = [] from z1.2.1.2.2] at D1
  exact law6 (V:={ V with td:=N + 1,k:=kW V.k 6 z1.1.T }) O hz hd hu hQ (hV.to _ rfl rfl rfl rfl rfl) hX hsv z1.2.2 z1.2.1.1 D1 hN1
theorem law4 {sv:List Value} {se:Nat} (hsv:TX sv (stripF nums))
    (D:Rep (cfg b w.params) S' h₀ ([(sc,lst ss e),(111,tableObj ⟨[]⟩),(aF,frW w.params V 6),(aC,cel none),(V.sp,lst sv se)]) h) (hN:h.objs.size = N):wpOwn (model PG w) A (cd147 aF aC) (execs lR4 (env147 aF aC)) Q (fun _ _=>False) ⟨h,g,dr,T,os⟩:=by
  show wpOwn (model PG w) A (cd147 aF aC) (execs (lawS 4 1++lR5) _) _ _ _
  refine own_execs_app ?_
  refine (sc_s4 (V:=V) (nums:=nums) O hV.tx (by rw [hV.tx]; exact tx_size nums hV.hi)).use2 hz hd hu D hN [1,2,3] .next (by decide) rfl (fun _=>rfl) (fun z=>[(sc,lst ss e),(111,tab2 z.1.X.cod0 z.1.X.cod),(aF,frW w.params V 6),(aC,cel (some (.ref z.1.X.a))),(V.sp,lst sv se)]) (fun _=>rfl) fun z1 h1 hN1 D1=>?_
  rw [show z1.1.n = 1 from z1.2.1] at D1
  exact law5 (V:=V) O hz hd hu hQ hV z1.2.2.2 hsv z1.2.2.1 D1 hN1
end
end
end Mine
end
section
namespace Mine
section
open PyProof.Rows
noncomputable def aS (sm wd a:Nat):Bool:=chkS ((first5++[(a,false)]).map fun p=>bx p.1) sm wd && (List.range 5).all fun c=>chkS ((first5++[(a,false),(c,false)]).map fun p=>bx p.1) sm wd
noncomputable def aT (a:Nat):Bool:=[false,true].all fun u=>chkT (first5++[(a,u)]) && (List.range 5).all fun c=>[false,true].all fun v=>chkT (first5++[(a,u),(c,v)])
theorem five {f:Nat → Bool} (h0:f 0 = true) (h1:f 1 = true) (h2:f 2 = true) (h3:f 3 = true) (h4:f 4 = true):(List.range 5).all f = true:=by
  show (f 0 && (f 1 && (f 2 && (f 3 && (f 4 && true))))) = true
  rw [h0,h1,h2,h3,h4]; rfl
theorem allS_of {sm wd:Nat} (h:chkS (first5.map fun p=>bx p.1) sm wd = true) (ha:(List.range 5).all (aS sm wd) = true):allS sm wd = true:=by
  show (_ && (List.range 5).all (aS sm wd)) = true
  rw [h,ha]; rfl
theorem allT_of (h:chkT first5 = true) (ha:(List.range 5).all aT = true):allT = true:=by
  show (_ && (List.range 5).all aT) = true
  rw [h,ha]; rfl
theorem all12:allS 1 2 = true:=allS_of (by decide +kernel) (five (by decide +kernel) (by decide +kernel) (by decide +kernel) (by decide +kernel) (by decide +kernel))
theorem all22:allS 2 2 = true:=allS_of (by decide +kernel) (five (by decide +kernel) (by decide +kernel) (by decide +kernel) (by decide +kernel) (by decide +kernel))
theorem all13:allS 1 3 = true:=allS_of (by decide +kernel) (five (by decide +kernel) (by decide +kernel) (by decide +kernel) (by decide +kernel) (by decide +kernel))
theorem all23:allS 2 3 = true:=allS_of (by decide +kernel) (five (by decide +kernel) (by decide +kernel) (by decide +kernel) (by decide +kernel) (by decide +kernel))
theorem allTT:allT = true:=allT_of (by decide +kernel) (five (by decide +kernel) (by decide +kernel) (by decide +kernel) (by decide +kernel) (by decide +kernel))
theorem ks5:ksI [1,6,3,0,7] = first5:=by kernel_rfl
theorem strip_ks (nums:List Int):stripF nums = (ksI nums).map fun p=>bx p.1:=by simp [ksI,stripF,bxI,Function.comp_def]
theorem ks_nums (ns:List Int):ksI (numsOf ns) = first5++ksI (ns.take 2):=by rw [← ks5]; simp [ksI,numsOf]
theorem fin_S {ns:List Int} {sm wd:Nat} (h:allS sm wd = true):chkS (stripF (numsOf ns)) sm wd = true:=by
  unfold allS at h
  simp only [Bool.and_eq_true,List.all_eq_true,List.mem_range] at h
  obtain ⟨h0,h1⟩:=h
  rw [strip_ks,ks_nums]
  match ns with
  | []=>simpa [ksI] using h0
  | [x]=>
    have:=(h1 (kI5 x) (kI5_lt x)).1
    simpa [ksI] using this
  | x :: y :: _=>
    have:=(h1 (kI5 x) (kI5_lt x)).2 (kI5 y) (kI5_lt y)
    simpa [ksI] using this
theorem mem_tf (u:Bool):u ∈ [false,true]:=by cases u <;> simp
theorem fin_T (ns:List Int):chkT (ksI (numsOf ns)) = true:=by
  have h:=allTT
  unfold allT at h
  simp only [Bool.and_eq_true,List.all_eq_true,List.mem_range] at h
  obtain ⟨h0,h1⟩:=h
  rw [ks_nums]
  match ns with
  | []=>simpa [ksI] using h0
  | [x]=>
    have:=(h1 (kI5 x) (kI5_lt x) (bareI x) (mem_tf _)).1
    simpa [ksI] using this
  | x :: y :: _=>
    have:=(h1 (kI5 x) (kI5_lt x) (bareI x) (mem_tf _)).2 (kI5 y) (kI5_lt y) (bareI y) (mem_tf _)
    simpa [ksI] using this
theorem fin_cnt (ns:List Int):(((PySem.Builtin.Str.occurrences (textF (numsOf ns)) (sg [10]) 0 (textF (numsOf ns)).length ((textF (numsOf ns)).length + 1)).length:Nat):Int) = (nlK (ksI (numsOf ns)):Nat):=by
  have h:=fin_T ns
  unfold chkT at h
  rw [textK_eq] at h
  simp only [beq_iff_eq] at h
  rw [h]
theorem fin_chk (ns:List Int) {sm wd:Int} (hm:sm = 1 ∨ sm = 2) (hw:wd = 2 ∨ wd = 3):ChkS (numsOf ns) sm.toNat wd.toNat:=by
  rcases hm with rfl | rfl <;> rcases hw with rfl | rfl
  · exact chkS_of (fin_S all12)
  · exact chkS_of (fin_S all13)
  · exact chkS_of (fin_S all22)
  · exact chkS_of (fin_S all23)
theorem vf_of (ns:List Int) (sc sp:Addr) (tx:Str) (xv:Int) (bx':Str) (k:Nat → Tok) (htx:tx = textF (numsOf ns)) :
    ∃ sm wd sz:Int,VF (numsOf ns) ⟨sc,ns.sum,sp,tx,xv,bx',0,0,sm,wd,sz,0,0,0,0,0,k⟩:=by
  have a1:=Int.fmod_lt_of_pos (ns.sum + 1) (b:=2) (by decide)
  have a2:=Int.fmod_nonneg_of_pos (ns.sum + 1) (b:=2) (by decide)
  have b1:=Int.fmod_lt_of_pos (ns.sum.fdiv 2 + 1) (b:=2) (by decide)
  have b2:=Int.fmod_nonneg_of_pos (ns.sum.fdiv 2 + 1) (b:=2) (by decide)
  have hm:1 + (ns.sum + 1).fmod 2 = 1 ∨ 1 + (ns.sum + 1).fmod 2 = 2:=by omega
  have hw:2 + (ns.sum.fdiv 2 + 1).fmod 2 = 2 ∨ 2 + (ns.sum.fdiv 2 + 1).fmod 2 = 3:=by omega
  subst htx
  exact ⟨_,_,((numsOf ns).length:Int) + (1 + (ns.sum + 1).fmod 2) + (2 + (ns.sum.fdiv 2 + 1).fmod 2),rfl,hm,hw,rfl,rfl,rfl,by simp [numsOf],numsOf_len ns,fin_chk ns hm hw,fin_cnt ns⟩
variable {w:World} {b:Bool} (O:(cfg b w.params).Ok PG w)
include O
theorem con_law {sc:Addr} {ss:List Value} {ns:List Int} {e N T:Nat} (hss:IX ss ns) (hl:ss.length ≤ sizeLine) :
    CG w b 530 5300 (.call (.ref 147) ⟨[.ref sc],[]⟩) [(sc,lst ss e),(111,tableObj ⟨[]⟩)] N T
      (fun z:Addr × Addr × Nat × Nat=>⟨.ret (.bool true),[lst ss e,tab2 z.1 z.2.1],[],z.2.2.1,z.2.2.2⟩):=by
  refine con_fn O (fn147 b w.params) (by decide) (ent147 b w.params N T (.ref sc)) ?_
  intro A s h hz hA hu hN D hN1
  refine codeAny_func_own ?_
  rw [law_body]
  have hc:(Code.func lR0 (env147 N (N + 1))) = cd147 N (N + 1):=by rw [← law_body]; rfl
  rw [hc]
  show wpOwn _ A (cd147 N (N + 1)) (execs (lawS 0 4++lR4) (env147 N (N + 1))) _ _ _
  refine own_execs_app ?_
  refine (sc_w1 O hss rfl hl).use2 hz hA hu D hN1 [0,2,3] .next (by decide) rfl (fun _=>rfl) (fun z=>[(sc,lst ss e),(111,tableObj ⟨[]⟩),(N,frW6 w.params sc z.1.1 z.1.2.k ns.sum z.1.2.tx z.1.2.xv z.1.2.bx),(N + 1,cel none)]) (fun _=>rfl) fun z1 h1 hN1 D1=>?_
  have hx:=vf_of ns sc z1.1.1 z1.1.2.tx z1.1.2.xv z1.1.2.bx z1.1.2.k z1.2.2
  refine law4 (V:=⟨sc,ns.sum,z1.1.1,z1.1.2.tx,z1.1.2.xv,z1.1.2.bx,0,0,hx.choose,hx.choose_spec.choose,hx.choose_spec.choose_spec.choose,0,0,0,0,0,z1.1.2.k⟩) (ss:=ss) (e:=e) O hz hA hu ?_ hx.choose_spec.choose_spec.choose_spec z1.2.1 D1 hN1
  intro N2 T2 c0 c1 rest h' D' hN'
  exact ⟨(c0,c1,N2,T2),rfl,aft_plain (q:=⟨.ret (.bool true),[lst ss e,tab2 c0 c1],[],N2,T2⟩) D' rfl hN' rfl⟩
end
end Mine
end
section
namespace Mine
section
open PyProof PyProof.Rows PySem.Spec PySem.Calls
theorem ix_of:∀ {vs:List Value} {ns:List Int},IntsAre vs ns → IX vs ns
  | _,_,.nil=>⟨[],rfl,rfl⟩
  | _,_,.cons n t h=>by
    obtain ⟨ps,rfl,rfl⟩:=ix_of h
    exact ⟨(n,t) :: ps,rfl,rfl⟩
theorem ft_eq (P:Params):P = FT (P.followText "special-get-raises") P:=by
  unfold FT
  have:(fun r=>match r == "special-get-raises" with | true=>P.followText "special-get-raises" | false=>P.followText r) = P.followText:=by
    funext r
    cases h:r == "special-get-raises" with
    | true=>rw [beq_iff_eq.mp h]
    | false=>rfl
  exact congrArg (fun f=>{ P with followText:=f }) this.symm
theorem law_old {h h':Heap} {P:Params} {c0 c1 sc:Addr} {ss:List Value} {e:Nat} {s s':Shared} {N T:Nat} {v:Value} (hs:s.heap = h) (hs':s'.heap = h') (h115:h.get? 115 = some (o115 P)) (h111:h.get? 111 = some (tableObj ⟨[]⟩)) (hsc:h.get? sc = some (lst ss e))
    (B:Aft s s' [(sc,lst ss e),(111,tableObj ⟨[]⟩)] ⟨.ret v,[lst ss e,tab2 c0 c1],[],N,T⟩):OldK h h':=by
  subst hs hs'
  have hs1:=B.wr (sc,lst ss e) (.head _)
  have hs2:=B.wr (111,tab2 c0 c1) (.tail _ (.head _))
  have key:∀ b o,s.heap.get? b = some o → b ≠ 111 → s'.heap.get? b = some o:=fun b o hb hn=>by
    by_cases hbs:b = sc
    · subst hbs
      rw [hsc] at hb
      rw [← hb]; exact hs1
    · exact B.keep b o hb (by simp [hbs,hn])
  refine ⟨fun b o hb=>?_,fun b o hb=>?_⟩
  · by_cases h1:b = 111
    · subst h1
      rw [h111] at hb
      cases hb
      exact .inr (.inl ⟨⟨115,_,_,h115,rfl,rfl,rfl⟩,rfl,#[],#[.int 118 0,.int 13 0,.ref c0,.int 119 0,.int 18 0,.ref c1],rfl,by rw [Array.empty_append]; exact hs2⟩)
    · exact .inl (key b o hb h1)
  · by_cases h1:b = 111
    · subst h1
      exact ⟨_,hs2⟩
    · exact ⟨o,key b o hb h1⟩
theorem off_top (b:Bool) (P:Params):(cfg b P).top 148 = none ∧ (cfg b P).top 111 = none:=⟨by kernel_rfl,by kernel_rfl⟩
theorem law_call {w:World} {s₁:Shared} {t:KT} (ZH:KT.Holds s₁.heap 1 0 t) (ht:(topL w.params).map (fun p=>t.get p.1) = (topL w.params).map (fun p=>some p.2)) (h111:t.get 111 = some (tableObj ⟨[]⟩))
    {ss:List Value} {ns:List Int} (hI:IntsAre ss ns) (hlen:ns.length ≤ 63) (hL:s₁.heap.get? 148 = some (lst ss 0)) (hg:s₁.gens = #[]) {c:ClaimW} {cl:Str → Option Addr} {mean:ExcName → Option Value} {args:List WData}
    (hr:∀ cls,c.raises args cls = false) (hp:c.post args (.bool true) args = true) :
    wpAny (model PG w) callerA (call (.ref 147) [.ref 148]) (fun v s'=>GoodWG c cl mean args s₁ (.ok (.ret v)) s') (fun e s'=>GoodWG c cl mean args s₁ (.error e) s') s₁:=by
  have hb:=ft_eq w.params
  have hX:=ix_of hI
  have hs:sizeLine = 16777216:=by decide
  have hl:ss.length ≤ sizeLine:=by rw [hX.len]; omega
  have hmem:∀ p ∈ topL w.params,s₁.heap.get? p.1 = some p.2:=fun p hp=>by
    have:=List.map_inj_left.mp ht p hp
    exact kt_at ZH this
  have hTop:TopIn (cfg (w.params.followText "special-get-raises") w.params) s₁.heap:=by
    intro a o h
    have h':lookT (topL (FT (w.params.followText "special-get-raises") w.params)) a = some o:=h
    rw [← hb] at h'
    exact hmem (a,o) (lookT_mem h')
  have h1:=kt_at ZH h111
  have hHas:HasL s₁.heap [(148,lst ss 0),(111,tableObj ⟨[]⟩)]:=by
    intro p hp
    rcases List.mem_cons.mp hp with rfl | hp
    · exact hL
    · rcases List.mem_cons.mp hp with rfl | hp
      · exact h1
      · cases hp
  have hOff:∀ p ∈ [((148:Addr),lst ss 0),(111,tableObj ⟨[]⟩)],(cfg (w.params.followText "special-get-raises") w.params).top p.1 = none:=by
    intro p hp
    rcases List.mem_cons.mp hp with rfl | hp
    · exact (off_top _ _).1
    · rcases List.mem_cons.mp hp with rfl | hp
      · exact (off_top _ _).2
      · cases hp
  have h115:s₁.heap.get? 115 = some (o115 w.params):=hmem (115,o115 w.params) (lookT_mem (by kernel_rfl))
  refine wpAny_call (codeAny_mono (con_law (cfg_ok (w.params.followText "special-get-raises") hb) hX hl callerA s₁ rfl (by decide) (by decide) hTop hHas (show ([148,111]:List Nat).Nodup by decide) hOff rfl rfl) fun r s' hh=>?_)
  obtain ⟨z,rfl,B⟩:=hh
  exact ⟨.inl ⟨_,_,[],rfl,hr,ReadsW.bool true,hp,fun _=>⟨List.nodup_nil,fun _ hm=>(nomatch hm)⟩⟩,law_old rfl rfl h115 h1 hL B,B.os,by rw [B.gens,hg]; exact AllBare.empty⟩
end
end Mine
end
end
open PySem PySem.W PyProof.Rows
open PySem.W.X PySem.W.ZRun
set_option Elab.async false
set_option maxRecDepth 100000 in
set_option maxHeartbeats 0 in
theorem PySem.Challenge.cw_qu0030_01_holds : PySem.Challenge.rw_qu0030_01.Holds := by
  w_on; o_law; z_head; (case hw => w_witness2)
  k_fill
  intro w s₀ s₁ mg mb G y fa o pm cd doc dV kV ho hd hcd hD hmg hg args vals as L hpre hlay hrd hwl hlo
  z_open y L KX ZH ZN ZT
  refine Ground.open G ?_
  intro T B D TE TW
  wrow_args hpre hlay hrd hwl hlo
  obtain ⟨hat,hsz⟩ := script_at L
  rw [ZN] at hat hsz
  subst hat
  x_fa T KX hmg
  have hI := ‹IntsAre _ _›
  have hol := script_obj L (by assumption)
  have hlen : _ ≤ 63 := Nat.le_of_not_lt (fun hh => absurd (Int.ofNat_lt.mpr hh) (by assumption))
  exact Mine.law_call ZH (by kernel_rfl) (by kernel_rfl) hI hlen hol hg (fun _ => rfl) (by first | rfl | wrow_post)
