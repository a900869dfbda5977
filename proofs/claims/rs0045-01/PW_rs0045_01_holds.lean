import PyProof.Rows.All
import Wide.All
import OpenK.AllK
import Wide.FinOn
import PyProof.StrLawsIn
import KE.KSuper
import PyProof.AutoIntG6
import KE.KEqDict
import PyProof.EnumMake
import PyProof.NeKinds
import PyProof.EqKinds
import PyProof.Rows.SortStr
import KE.KSortKey
import PyProof.CollectStr
import Lean
import PySem.Challenge.RW_rs0045_01
set_option Elab.async false
set_option maxRecDepth 100000
set_option linter.all false
noncomputable section
namespace Mine
theorem mS {α:Type}{a:α}{l:List α}:a∈a::l:=List.mem_cons_self ..
theorem mO {α:Type}{a b:α}{l:List α}(h:a∈l):a∈b::l:=List.mem_cons_of_mem _ h
theorem mQ {α:Type}{a b:α}{l:List α}(h:a∈b::l):a=b∨a∈l:=List.mem_cons.mp h
section
open PySem PySem.W PySem.W.X PySem.Spec PySem.Calls
noncomputable def den:Code→Sem Fin:=PySem.W.Fast.tw11892475500146522536 PySem.W.Fast.tw14364793385576792824
theorem den_eq:denote table=den:=by
  unfold den
  rw [← PySem.W.Fast.te11892475500146522536,← PySem.W.Fast.te14364793385576792824,← table_eq_tree]
noncomputable def markO:Obj:={ cls:=.bool true,data:=.fields #[] }
noncomputable def isMark (o:Obj):Bool:=match o.cls with
  | .bool true=>true
  | _=>false
noncomputable def ownX (o:Obj):Option Nat:=match o.cls,o.data with
  | .type n,.fields vs=>match @decide (n = "enumerate") (PySem.W.S.strDecS n "enumerate") with
    | true=>match vs.toList with
      | .int (.ofNat x) 0::_=>some x
      | _=>none
    | false=>none
  | _,_=>none
noncomputable def goX (it v:Value):Sem Unit:=match it,v with
  | .ref r,.ref a=>.load r none fun o=>match ownX o with
    | some x=>.load a none fun oa=>match isMark oa with
      | true=>.unsupported ""
      | false=>.update x none (fun _=>markO) fun _=>.load a none fun o2=>match isMark o2 with
        | true=>.update a none (fun _=>oa) fun _=>.update r none (Obj.mapFields (·.setIfInBounds 0 .none)) fun _=>.pure ()
        | false=>.unsupported ""
    | none=>.unsupported ""
  | _,_=>.unsupported ""
theorem upd_back {h:Heap}{a:Addr}{oa:Obj}(e:h.get? a=some oa)(o:Obj):(h.update a (fun _=>o)).update a (fun _=>oa)=h:=by
  obtain ⟨objs,l⟩:=h
  show Heap.mk ((objs.modify a fun _=>o).modify a fun _=>oa) l=_
  congr 1
  obtain ⟨e1,_⟩:=Heap.get?_some_iff.mp e
  refine Array.ext (by simp) fun i h1 h2=>?_
  rw [Array.getElem_modify,Array.getElem_modify]
  by_cases hi:a=i
  · subst hi
    rw [if_pos rfl]
    have e2:objs[a]?=some oa:=e1
    rw [Array.getElem?_eq_getElem h2] at e2
    exact (Option.some.inj e2).symm
  · rw [if_neg hi,if_neg hi]
theorem ownX_some {o:Obj}{x:Nat}(h:ownX o=some x):∃ vs:Array Value,o.cls=.type "enumerate" ∧ o.data=.fields vs∧vs[0]?=some (rawInt x)∧0<vs.size:=by
  unfold ownX at h
  split at h
  · rename_i n vs h1 h2
    split at h
    · rename_i h3
      split at h
      · rename_i y l h4
        cases h
        refine ⟨vs,?_,h2,?_,?_⟩
        · rw [h1,@of_decide_eq_true _ (PySem.W.S.strDecS n "enumerate") h3]
        · rw [← Array.getElem?_toList,h4];rfl
        · have:=congrArg List.length h4
          rw [Array.length_toList] at this
          rw [this];exact Nat.succ_pos _
      · cases h
    · cases h
  · cases h
theorem goX_ok {M:Model}{Γ:PySem.Ctx}{target:Expr}(ht:∃ es x1 tp,target=.Tuple es x1 tp){it v:Value}{Q:Unit→Pos→Shared→Prop}{E:Value→Pos→Shared→Prop}{p:Pos}{s:Shared}(h:Sem.wp M Γ (goX it v) Q E p s):Sem.wp M Γ (letOwnedTupleGo target it v) Q E p s:=by
  obtain ⟨es,x1,tp,rfl⟩:=ht
  unfold goX at h
  split at h
  · rename_i r a
    rw [Sem.wp_load] at h
    obtain ⟨o,ho,h⟩:=h
    split at h
    · rename_i x hx
      obtain ⟨vs,c1,c2,c3,c4⟩:=ownX_some hx
      rw [Sem.wp_load] at h
      obtain ⟨oa,hoa,h⟩:=h
      split at h
      · exact absurd h (by simp [Sem.wp])
      · rename_i hm
        rw [Sem.wp_update] at h
        obtain ⟨_,h⟩:=h
        rw [Sem.wp_load] at h
        obtain ⟨o2,ho2,h⟩:=h
        split at h
        · rename_i hm2
          have e:x=a:=by
            by_cases hxa:x=a
            · exact hxa
            · exfalso
              have:=Heap.get?_update_other s.heap (fun _=>markO) hxa
              rw [this,hoa] at ho2
              cases ho2
              rw [hm2] at hm;cases hm
          subst e
          rw [Sem.wp_update] at h
          obtain ⟨_,h⟩:=h
          dsimp only at h
          rw [upd_back hoa] at h
          rw [Sem.wp_update] at h
          obtain ⟨_,h⟩:=h
          unfold letOwnedTupleGo
          rw [Sem.wp_bind']
          show Sem.wp M Γ (Sem.load r none .pure) _ _ _ _
          rw [Sem.wp_load]
          refine ⟨o,ho,?_⟩
          rw [Sem.wp]
          obtain ⟨oc,od,odata,osl⟩:=o
          cases c1;cases c2
          show Sem.wp M Γ (if (["enumerate","zip","dict_itemiterator","dict_reverseitemiterator","odict_iterator","itertools.zip_longest","itertools.pairwise"].contains "enumerate" && vs[0]?==some (rawInt x))=true then _ else _) _ _ _ _
          rw [if_pos (by rw [c3];simp)]
          rw [Sem.wp_bind']
          show Sem.wp M Γ (Sem.rule _ .pure) _ _ _ _
          rw [Sem.wp,Sem.wp]
          unfold updateField
          rw [Sem.wp_bind']
          show Sem.wp M Γ (Sem.load r none .pure) _ _ _ _
          rw [Sem.wp_load]
          refine ⟨_,ho,?_⟩
          rw [Sem.wp]
          show Sem.wp M Γ (if 0<vs.size then update r (Obj.mapFields (·.setIfInBounds 0 .none)) else _) _ _ _ _
          rw [if_pos c4]
          show Sem.wp M Γ (Sem.update r none _ .pure) _ _ _ _
          rw [Sem.wp_update]
          refine ⟨by rw [ho];rfl,?_⟩
          exact h
        · exact absurd h (by simp [Sem.wp])
    · exact absurd h (by simp [Sem.wp])
  · exact absurd h (by simp [Sem.wp])
noncomputable def compX (elt tgt c:Expr)(it acc:Value)(env:Env)(next:Code):Sem Fin :=
  PySem.W.R.bindR (PySem.W.Fast.tw9404975358583537561 it) fun o=>match o with
    | none=>.pure (.done .next)
    | some v=>PySem.W.R.bindR (goX it v) fun _=>PySem.W.R.bindR (PySem.W.Fast.tw17772580674575903948 tgt env v) fun _ =>
      PySem.W.R.bindR (PySem.W.Fast.tw15418851999007992765 c env (PySem.W.Fast.tw14044960220447912780 c env)) fun ok=>match ok with
        | true=>PySem.W.R.bindR (PySem.W.Fast.tw14044960220447912780 elt env) fun x=>PySem.W.R.bindR (PySem.W.Fast.tw11478286150595567475 (.builtin "list.append") [acc,x] []) fun _=>.pure (.again next)
        | false=>.pure (.again next)
noncomputable def denX (c:Code):Sem Fin:=match c with
  | .compLoop (.ListComp elt [⟨.Tuple es x1 tp,iter,[cnd],0⟩] scope pos) 0 it acc env =>
    .at iter.pos fun _=>PySem.W.R.onRaiseR (compX elt (.Tuple es x1 tp) cnd it acc env (.compLoop (.ListComp elt [⟨.Tuple es x1 tp,iter,[cnd],0⟩] scope pos) 0 it acc env)) fun x=>PySem.W.R.bindR (PySem.W.Fast.tw17872113653443481271 x env) fun _=>PySem.W.Fast.tw1623429502029203251 x
  | c=>den c
theorem denX_ok {M:Model}{Γ:PySem.Ctx}{c:Code}{Q:Fin→Pos→Shared→Prop}{E:Value→Pos→Shared→Prop}{p:Pos}{s:Shared}(h:Sem.wp M Γ (denX c) Q E p s):Sem.wp M Γ (denote table c) Q E p s:=by
  unfold denX at h
  split at h
  · rename_i elt es x1 tp iter cnd scope pos it acc env
    show Sem.wp M Γ ((compTurn (.ListComp elt [⟨.Tuple es x1 tp,iter,[cnd],0⟩] scope pos) 0 it acc env).onRaise (fun x=>do noteFrame x env;theTreesLotGoes x)) Q E p s
    rw [Sem.wp] at h
    unfold compX at h
    rw [← PySem.W.R.onRaiseR_eq] at h
    simp only [← PySem.W.R.bindR_eq,← PySem.W.Fast.te9404975358583537561,← PySem.W.Fast.te17772580674575903948,← PySem.W.Fast.te15418851999007992765,← PySem.W.Fast.te14044960220447912780,← PySem.W.Fast.te11478286150595567475,← PySem.W.Fast.te17872113653443481271,← PySem.W.Fast.te1623429502029203251] at h
    rw [Sem.wp_onRaise] at h
    rw [compTurn_list,Sem.wp_onRaise,Sem.wp_bind']
    show Sem.wp M Γ (Sem.at iter.pos .pure) _ _ _ _
    rw [Sem.wp,Sem.wp,Sem.wp_bind']
    have h2:Sem.wp M Γ (pyNext it >>= _) _ _ _ _:=h
    rw [Sem.wp_bind'] at h2
    refine Sem.wp_mono M Γ _ (fun o p1 s1 h3=>?_) (fun e p1 s1 h3=>h3) _ _ h2
    cases o with
    | none=>exact h3
    | some v =>
      have h4:Sem.wp M Γ (goX it v >>= _) _ _ _ _:=h3
      rw [Sem.wp_bind'] at h4
      show Sem.wp M Γ (letOwnedTupleGo _ it v >>= _) _ _ _ _
      rw [Sem.wp_bind']
      refine goX_ok ⟨_,_,_,rfl⟩ (Sem.wp_mono M Γ _ (fun u p2 s2 h5=>?_) (fun e p1 s1 h3=>h3) _ _ h4)
      have h6:Sem.wp M Γ (assign _ env v >>= _) _ _ _ _:=h5
      rw [Sem.wp_bind'] at h6 ⊢
      refine Sem.wp_mono M Γ _ (fun u p3 s3 h7=>?_) (fun e p1 s1 h3=>h3) _ _ h6
      have h8:Sem.wp M Γ (isTrue cnd env (eval cnd env) >>= _) _ _ _ _:=h7
      rw [Sem.wp_bind'] at h8
      simp only [List.forIn_cons,List.forIn_nil,if_true]
      rw [Sem.wp_bind',Sem.wp_bind',Sem.wp_bind']
      refine Sem.wp_mono M Γ _ (fun ok p4 s4 h9=>?_) (fun e p1 s1 h3=>h3) _ _ h8
      cases ok with
      | false=>exact h9
      | true =>
        have h10:Sem.wp M Γ (eval elt env >>= fun x=>Sem.bind (call (.builtin "list.append") [acc,x]) fun _=>Sem.pure (Fin.again (Code.compLoop (.ListComp elt [⟨.Tuple es x1 tp,iter,[cnd],0⟩] scope pos) 0 it acc env))) _ _ _ _:=h9
        rw [Sem.wp_bind'] at h10
        show Sem.wp M Γ ((eval elt env >>= fun x=>Sem.bind (call (.builtin "list.append") [acc,x]) fun _=>Sem.pure ()) >>= fun _=>Sem.pure (Fin.again (Code.compLoop (.ListComp elt [⟨.Tuple es x1 tp,iter,[cnd],0⟩] scope pos) 0 it acc env))) _ _ _ _
        rw [Sem.wp_bind',Sem.wp_bind']
        refine Sem.wp_mono M Γ _ (fun x p5 s5 h11=>?_) (fun e p1 s1 h3=>h3) _ _ h10
        have h12:Sem.wp M Γ (call (.builtin "list.append") [acc,x] >>= fun _=>Sem.pure (Fin.again (Code.compLoop (.ListComp elt [⟨.Tuple es x1 tp,iter,[cnd],0⟩] scope pos) 0 it acc env))) _ _ _ _:=h11
        rw [Sem.wp_bind'] at h12
        show Sem.wp M Γ (call (.builtin "list.append") [acc,x] >>= fun _=>Sem.pure ()) _ _ _ _
        rw [Sem.wp_bind']
        exact h12
  · rw [den_eq];exact h
theorem wpOwn_denX {M:Model}{A:Around}{c:Code}{Q:Fin→Shared→Prop}{E:Value→Shared→Prop}{s:Shared}(h:wpOwn M A c (denX c) Q E s):wpOwn M A c (denote table c) Q E s:=fun Γ p hc hΓ=>denX_ok (h Γ p hc hΓ)
noncomputable abbrev Nu:=Nat→Nat
inductive Ob where
  | a (x:Nat)
  | t (x:Sem Fin)
  | c (x:Code)
  | o (x:Option Obj)
  | b (x:Bool)
  | f (x:Pos→List (Code×Pos)→Sem Fin)
structure Ctr where
  code:Code
  idx:List Nat
  pre:List Obj
  res:Result
  post:List Obj
  new:List Obj
structure Ev where
  skip:Nat
  m:Nat
  i:Nat
  k:Nat
  nt:Nat
  d:Nat
  C:Nu→Nu→Ctr
inductive Out where
  | done (r:Result) (T:BT) (m i:Nat) (acc:List (Ob×Ob))
  | bad (why:Nat) (at_:Nat)
noncomputable abbrev Kon:=List (Code×(Result→Sem Fin))
noncomputable abbrev St:=BT→Nat→Nat→List Nat→List Ev→List (Ob×Ob)→Out
noncomputable abbrev SimT:=Code→Kon→Sem Fin→St
noncomputable abbrev twEnter:Nat→Sem Unit:=@PySem.W.Fast.tw15066281185411960212
noncomputable abbrev twRoom:String→Sem Unit:=PySem.W.Fast.tw10648789137845014744
noncomputable def quietZ:Code→Bool:=PySem.W.ZFast.zw17772548960776305114
theorem quietZ_eq:Code.quiet=quietZ:=PySem.W.ZFast.ze17772548960776305114
noncomputable def callerZ:Code→Bool:=PySem.W.ZFast.zw2167841511373827401
theorem callerZ_eq:Code.isCaller=callerZ:=PySem.W.ZFast.ze2167841511373827401
noncomputable def trunc (n:Nat)(f:Nu):Nu:=fun j=>match Nat.blt j n with
  | true=>f j
  | false=>0
noncomputable def retS (ih:SimT)(r:Result)(κ:Kon):St:=match κ with
  | []=>fun T m i _ _ acc=>.done r T m i acc
  | (c,k)::κ=>ih c κ (k r)
noncomputable def p0:Pos:=⟨0,0,0,0⟩
noncomputable def skipLoad (t:Sem Fin)(o:Obj):Sem Fin:=match t with
  | .load _ _ k=>k o
  | t=>t
noncomputable def preObs (T:BT):List Nat→List Obj→List (Ob×Ob)→List (Ob×Ob)
  | i::is,o::os,acc=>preObs T is os ((.o (T.get i),.o (some o))::acc)
  | [],[],acc=>acc
  | _,_,acc=>(.b false,.b true)::acc
noncomputable def setAll:BT→List Nat→List Obj→BT
  | T,i::is,o::os=>setAll (T.set i fun _=>o) is os
  | T,_,_=>T
noncomputable def insAll:BT→Nat→List Obj→Option BT
  | T,m,o::os=>match (T.ins m o).get m with
    | some _=>insAll (T.ins m o) (m+1) os
    | none=>none
  | T,_,[]=>some T
noncomputable def nodupB:List Nat→Bool
  | []=>true
  | i::is=>match is.any (fun j=>Nat.beq i j) with
    | true=>false
    | false=>nodupB is
noncomputable def lightK:Kon→Bool
  | []=>true
  | (c,_)::κ=>match callerZ c with
    | true=>false
    | false=>lightK κ
noncomputable def roomOk (d₀ lim:Nat)(c:Code)(κ:Kon):Bool:=match callerZ c with
  | true=>false
  | false=>match lightK κ with
    | true=>Nat.ble (d₀+6*(κ.length+1)) lim
    | false=>false
noncomputable def roomC (tl:Bool)(d₀ lim:Nat)(c:Code)(κ:Kon):Bool:=match tl with
  | false=>roomOk d₀ lim c κ
  | true=>match lightK κ with
    | true=>Nat.ble (d₀+6*κ.length) lim
    | false=>false
section
variable (prog:Program)(P:Params)(gl:Addr→Option Obj)(d₀:Nat)(J Z:Nu)
noncomputable def ctrObs (tl:Bool)(e:Ev)(c:Code)(κ:Kon)(c':Code)(T:BT)(m i:Nat)(X:Ctr)(acc:List (Ob×Ob)):List (Ob×Ob) :=
  (.c c',.c X.code)::(.b (Nat.beq m e.m),.b true)::(.b (Nat.beq i e.i),.b true)::(.b (Nat.beq X.new.length e.k),.b true)::(.b (Nat.beq X.idx.length X.post.length),.b true)::(.b (nodupB X.idx),.b true) ::
          (.b (roomC tl d₀ e.d c κ),.b true)::preObs T X.idx X.pre acc
noncomputable def useC (tl:Bool)(ih:SimT)(e:Ev)(es:List Ev)(c:Code)(κ:Kon)(c':Code)(next:Result→St):St:=fun T m i hs _ acc =>
  (fun (X:Ctr)=>match insAll (setAll T X.idx X.post) m X.new with
    | some T'=>next X.res T' (m+e.k) (i+e.nt) hs es (ctrObs d₀ tl e c κ c' T m i X acc)
    | none=>.bad 10 0) (e.C (trunc (m+e.k) J) (trunc (i+e.nt) Z))
noncomputable def simStep (ih:SimT)(c:Code)(κ:Kon)(t:Sem Fin):St:=match t with
  | .pure fin=>match fin with
    | .done f=>retS ih (.ok f) κ
    | .again c'=>fun T m i hs cs acc=>match cs with
      | e::es=>match e.skip with
        | 0=>useC d₀ J Z true ih e es c κ c' (fun r=>retS ih r κ) T m i hs cs ((.b (quietZ c'),.b true)::acc)
        | n+1=>ih c' κ (denX c') T m i hs ({ e with skip:=n }::es) ((.b (quietZ c'),.b true)::acc)
      | []=>ih c' κ (denX c') T m i hs [] ((.b (quietZ c'),.b true)::acc)
  | .raise e=>retS ih (.error e) κ
  | .rule _ k=>ih c κ (k ())
  | .at _ k=>ih c κ (k ())
  | .point _ k=>ih c κ (k ())
  | .ask k=>ih c κ (k ⟨prog,P⟩)
  | .load a _ k=>fun T m i hs cs acc=>match hs with
    | h::hs=>match h with
      | 0=>match gl a with
        | some o=>ih c κ (k o) T m i hs cs acc
        | none=>.bad 1 a
      | j+1=>match T.get j with
        | some o=>ih c κ (k o) T m i hs cs ((.a a,.a (J j))::acc)
        | none=>.bad 2 a
    | []=>.bad 3 a
  | .loadIfAlive a k=>fun T m i hs cs acc=>match hs with
    | h::hs=>match h with
      | 0=>match gl a with
        | some o=>ih c κ (k (some o)) T m i hs cs acc
        | none=>.bad 1 a
      | j+1=>match T.get j with
        | some o=>ih c κ (k (some o)) T m i hs cs ((.a a,.a (J j))::acc)
        | none=>.bad 2 a
    | []=>.bad 3 a
  | .alloc o k=>fun T m i hs cs acc=>match (T.ins m o).get m with
    | some _=>ih c κ (k (J m)) (T.ins m o) (m+1) i hs cs ((.b o.isFreed,.b false)::acc)
    | none=>.bad 4 m
  | .update a _ f k=>fun T m i hs cs acc=>match hs with
    | h::hs=>match h with
      | 0=>.bad 5 a
      | j+1=>match T.get j with
        | some o=>ih c κ (k ()) (T.set j f) m i hs cs ((.a a,.a (J j))::(.b (f o).isFreed,.b false)::acc)
        | none=>.bad 2 a
    | []=>.bad 3 a
  | .fresh k=>fun T m i hs cs acc=>ih c κ (k (Z i)) T m (i+1) hs cs acc
  | .handled own k=>match own with
    | false=>ih c κ (k none)
    | true=>fun _ _ _ _ _ _=>.bad 6 0
  | .stack k=>fun T m i hs cs acc=>match hs with
    | h::hs=>match h with
      | 0=>(fun (t':Sem Fin)=>ih c κ t' T m i hs cs ((.f (fun p b=>k ((c,p)::b)),.f (fun _ _=>t'))::acc)) (k [(c,p0)])
      | 1=>match gl 2 with
        | some o=>(fun (t':Sem Fin)=>ih c κ t' T m i hs cs ((.t (.stack k),.t (PySem.W.R.bindR (twEnter 0) fun _=>t'))::(.b (roomOk d₀ 980 c κ),.b true)::acc)) (skipLoad (k [(c,p0)]) o)
        | none=>.bad 1 2
      | 2=>(fun (t':Sem Fin)=>ih c κ t' T m i hs cs ((.t (.stack k),.t (PySem.W.R.bindR (twRoom "comparison") fun _=>t'))::(.b (roomOk d₀ 980 c κ),.b true)::acc)) (k [(c,p0)])
      | _=>.bad 7 h
    | []=>.bad 3 0
  | .call c' hd _ _ k=>match hd with
    | none=>fun T m i hs cs acc=>match cs with
      | e::es=>match e.skip with
        | 0=>useC d₀ J Z false ih e es c κ c' (fun r=>ih c κ (k r)) T m i hs cs acc
        | n+1=>ih c' ((c,k)::κ) (denX c') T m i hs ({ e with skip:=n }::es) acc
      | []=>ih c' ((c,k)::κ) (denX c') T m i hs [] acc
    | some _=>fun _ _ _ _ _ _=>.bad 8 0
  | _=>fun _ _ _ _ _ _=>.bad 9 0
noncomputable def sim (n:Nat):SimT :=
  @Nat.rec (fun _=>SimT) (fun _ _ _ _ _ _ _ _ _=>.bad 0 0) (fun _ ih=>simStep prog P gl d₀ J Z ih) n
end
noncomputable def Out.L:Out→List Ob
  | .done _ _ _ _ acc=>acc.map (·.1)
  | .bad ..=>[.b true]
noncomputable def Out.R:Out→List Ob
  | .done _ _ _ _ acc=>acc.map (·.2)
  | .bad ..=>[.b false]
noncomputable def Out.get {β:Type}(o:Out)(f:Result→BT→Nat→Nat→β):Option β:=match o with
  | .done r T m i _=>some (f r T m i)
  | .bad ..=>none
def Agree (n:Nat)(f g:Nu):Prop:=∀ j,j<n→f j=g j
theorem Agree.refl (n:Nat)(f:Nu):Agree n f f:=fun _ _=>rfl
theorem Agree.mono {n m:Nat}{f g:Nu}(h:Agree m f g)(hn:n≤m):Agree n f g:=fun j hj=>h j (Nat.lt_of_lt_of_le hj hn)
theorem Agree.trans {n:Nat}{f g k:Nu}(h:Agree n f g)(h':Agree n g k):Agree n f k:=fun j hj=>(h j hj).trans (h' j hj)
theorem Agree.symm {n:Nat}{f g:Nu}(h:Agree n f g):Agree n g f:=fun j hj=>(h j hj).symm
theorem trunc_lt {n j:Nat}(f:Nu)(h:j<n):trunc n f j=f j:=by
  unfold trunc
  have:Nat.blt j n=true:=Nat.ble_eq_true_of_le h
  rw [this]
theorem trunc_ge {n j:Nat}(f:Nu)(h:n≤j):trunc n f j=0:=by
  unfold trunc
  cases q:Nat.blt j n with
  | false=>rfl
  | true=>exact absurd (Nat.le_of_ble_eq_true q) (by omega)
theorem trunc_eq {n:Nat}{f g:Nu}(h:Agree n f g):trunc n f=trunc n g:=by
  funext j
  by_cases hj:j<n
  · rw [trunc_lt f hj,trunc_lt g hj,h j hj]
  · rw [trunc_ge f (by omega),trunc_ge g (by omega)]
theorem trunc_self {n:Nat}{f:Nu}(h:∀ j,n≤j→f j=0):trunc n f=f:=by
  funext j
  by_cases hj:j<n
  · exact trunc_lt f hj
  · rw [trunc_ge f (by omega),h j (by omega)]
def AgU (n:Nat)(f g:Nu):Prop:=(∀ j,183≤f j)∧Agree n f g
def Has (h:Heap)(as:List Addr)(os:List Obj):Prop:=as.map h.get?=os.map some
theorem Has.len {h:Heap}{as:List Addr}{os:List Obj}(H:Has h as os):as.length=os.length:=by
  have:=congrArg List.length H
  rwa [List.length_map,List.length_map] at this
theorem Has.at {h:Heap}{as:List Addr}{os:List Obj}(H:Has h as os){j:Nat}{a:Addr}(ha:as[j]?=some a):∃ o,os[j]?=some o∧h.get? a=some o:=by
  have e:=congrArg (fun l=>l[j]?) H
  simp only [List.getElem?_map,ha,Option.map_some] at e
  cases q:os[j]? with
  | none=>rw [q] at e;cases e
  | some o=>rw [q] at e;exact ⟨o,rfl,Option.some.inj e⟩
def Small (A:Around)(d:Nat):Prop:=A.handled=none∧A.depth≤d∧A.units≤10*d
structure After (gl:Addr→Option Obj)(as:List Addr)(s s':Shared):Prop where
  glob:∀ a o,gl a=some o→s'.heap.get? a=some o
  keep:∀ b o,s.heap.get? b=some o→b ∉ as→s'.heap.get? b=some o
  size:s.heap.objs.size≤s'.heap.objs.size
  gens:s'.gens=s.gens
  drawn:s'.drawn=s.drawn
  os:s'.os=s.os
  toks:s.toks≤s'.toks
structure Rep (gl:Addr→Option Obj)(s₀:Shared)(m₀:Nat)(J:Nu)(T:BT)(m:Nat)(s:Shared):Prop where
  own:∀ i o,T.get i=some o→i<m∧s.heap.get? (J i)=some o
  inj:∀ i j,i<m→j<m→J i=J j→i=j
  lt:∀ i,i<m→J i<s.heap.objs.size
  out:∀ i,i<m→gl (J i)=none
  new:∀ i,m₀≤i→i<m→s₀.heap.objs.size≤J i
  mle:m₀≤m
  glob:∀ a o,gl a=some o→s.heap.get? a=some o
  keep:∀ b o,s₀.heap.get? b=some o→(∀ i,i<m₀→J i≠b)→s.heap.get? b=some o
  size:s₀.heap.objs.size≤s.heap.objs.size
  gens:s.gens=s₀.gens
  drawn:s.drawn=s₀.drawn
  os:s.os=s₀.os
  toks:s₀.toks≤s.toks
  low:∀ j,183≤J j
  big:183≤s₀.heap.objs.size
def ValidC (prog:Program)(w:World)(gl:Addr→Option Obj)(e:Ev):Prop :=
  ∀ (J Z:Nu) (A:Around) (s:Shared),Small A e.d→(∀ a o,gl a=some o→s.heap.get? a=some o)→Has s.heap ((e.C J Z).idx.map J) (e.C J Z).pre→((e.C J Z).idx.map J).Nodup →
    (∀ a∈(e.C J Z).idx.map J,gl a=none∧183≤a) →
    codeAny (model prog w) A (e.C J Z).code (fun r s'=>∃ J' Z',Agree e.m J' J∧Agree e.i Z' Z∧(∀ j,e.m+e.k≤j→J' j=0)∧(∀ j,e.i+e.nt≤j→Z' j=0) ∧
      r=(e.C J' Z').res∧(e.C J' Z').idx=(e.C J Z).idx∧Has s'.heap ((e.C J Z).idx.map J) (e.C J' Z').post ∧
      Has s'.heap ((List.range e.k).map fun j=>J' (e.m+j)) (e.C J' Z').new ∧
      (∀ j,j<e.k→s.heap.objs.size≤J' (e.m+j))∧(∀ j j',j<e.k→j'<e.k→J' (e.m+j)=J' (e.m+j')→j=j') ∧
      After gl ((e.C J Z).idx.map J) s s') s
def Good (o:Out)(Post:Result→BT→Nat→Nat→Prop):Prop:=match o with
  | .done r T m i acc=>(∀ p∈acc,p.1=p.2)∧Post r T m i
  | .bad ..=>False
theorem all_of_maps:∀ {acc:List (Ob×Ob)},acc.map (·.1)=acc.map (·.2)→∀ p∈acc,p.1=p.2
  | [],_,_,hm=>by cases hm
  | p::acc,e,q,hm=>by
    rw [List.map_cons,List.map_cons] at e
    injection e with e1 e2
    rcases mQ hm with rfl | hm
    · exact e1
    · exact all_of_maps e2 q hm
theorem good_of {o:Out}{β:Type}{f:Result→BT→Nat→Nat→β}{x:β}{Post:Result→BT→Nat→Nat→Prop}(h:(o.L,o.get f)=(o.R,some x))(hp:∀ r T m i,f r T m i=x→Post r T m i):Good o Post:=by
  have h1:o.L=o.R:=congrArg Prod.fst h
  have h2:o.get f=some x:=congrArg Prod.snd h
  cases o with
  | bad=>cases h2
  | done r T m i acc=>exact ⟨all_of_maps h1,hp _ _ _ _ (Option.some.inj h2)⟩
def Mono (ih:SimT):Prop:=∀ c κ t T m i hs cs acc r T' m' i' acc',ih c κ t T m i hs cs acc=.done r T' m' i' acc'→∀ p∈acc,p∈acc'
theorem Mono.at {ih:SimT}(h:Mono ih){c κ t T m i hs cs}{acc acc0:List (Ob×Ob)}{r T' m' i'}{acc':List (Ob×Ob)}(e:ih c κ t T m i hs cs acc=.done r T' m' i' acc')(hs':∀ p∈acc0,p∈acc):∀ p∈acc0,p∈acc':=fun p hp=>h _ _ _ _ _ _ _ _ _ _ _ _ _ _ e p (hs' p hp)
theorem preObs_sub (T:BT):∀ (is:List Nat) (os:List Obj) (acc:List (Ob×Ob)),∀ p∈acc,p∈preObs T is os acc
  | [],[],_,p,hp=>hp
  | [],_::_,_,p,hp=>mO hp
  | _::_,[],_,p,hp=>mO hp
  | i::is,o::os,acc,p,hp=>preObs_sub T is os _ p (mO hp)
section
variable {prog:Program}{P:Params}{gl:Addr→Option Obj}{d₀:Nat}{J Z:Nu}
theorem retS_mono {ih:SimT}(h:Mono ih){r:Result}{κ:Kon}{T m i hs cs acc r' T' m' i' acc'}(e:retS ih r κ T m i hs cs acc=.done r' T' m' i' acc'):∀ p∈acc,p∈acc':=by
  cases κ with
  | nil=>cases e;exact fun _ hp=>hp
  | cons x κ=>exact h _ _ _ _ _ _ _ _ _ _ _ _ _ _ e
theorem useC_mono {tl:Bool}{ih:SimT}{ev:Ev}{es:List Ev}{c:Code}{κ:Kon}{c':Code}{next:Result→St}(hn:∀ r T m i hs cs acc r' T' m' i' acc',next r T m i hs cs acc=.done r' T' m' i' acc'→∀ p∈acc,p∈acc')
    {T m i hs cs acc r' T' m' i' acc'} (e:useC d₀ J Z tl ih ev es c κ c' next T m i hs cs acc=.done r' T' m' i' acc'):∀ p∈acc,p∈acc':=by
  unfold useC at e
  dsimp only at e
  split at e
  · intro p hp
    refine hn _ _ _ _ _ _ _ _ _ _ _ _ e p ?_
    unfold ctrObs
    iterate 7 refine mO ?_
    exact preObs_sub _ _ _ _ p hp
  · cases e
theorem step_mono {ih:SimT}(h:Mono ih):Mono (simStep prog P gl d₀ J Z ih):=by
  intro c κ t T m i hs cs acc r T' m' i' acc' e
  cases t with
  | pure fin =>
    cases fin with
    | done f=>exact retS_mono h e
    | again c' =>
      simp only [simStep] at e
      split at e
      · split at e
        · exact fun p hp=>useC_mono (fun _ _ _ _ _ _ _ _ _ _ _ _ e=>retS_mono h e) e p (mO hp)
        · exact h.at e fun p hp=>mO hp
      · exact h.at e fun p hp=>mO hp
  | raise x=>exact retS_mono h e
  | rule _ k=>exact h.at e fun _ hp=>hp
  | «at» _ k=>exact h.at e fun _ hp=>hp
  | point _ k=>exact h.at e fun _ hp=>hp
  | ask k=>exact h.at e fun _ hp=>hp
  | load a _ k =>
    simp only [simStep] at e
    repeat' split at e
    all_goals first | (cases e;done) | exact h.at e fun p hp=>by first | exact hp | exact mO hp
  | loadIfAlive a k =>
    simp only [simStep] at e
    repeat' split at e
    all_goals first | (cases e;done) | exact h.at e fun p hp=>by first | exact hp | exact mO hp
  | alloc o k =>
    simp only [simStep] at e
    repeat' split at e
    all_goals first | (cases e;done) | exact h.at e fun p hp=>mO hp
  | update a _ f k =>
    simp only [simStep] at e
    repeat' split at e
    all_goals first | (cases e;done) | exact h.at e fun p hp=>mO (mO hp)
  | fresh k=>exact h.at e fun _ hp=>hp
  | handled own k =>
    cases own with
    | false=>exact h.at e fun _ hp=>hp
    | true=>cases e
  | stack k =>
    simp only [simStep] at e
    repeat' split at e
    all_goals first | (cases e;done) | exact h.at e fun p hp=>by first | exact mO hp | exact mO (mO hp)
  | call c' hd g l k =>
    cases hd with
    | some _=>cases e
    | none =>
      simp only [simStep] at e
      split at e
      · split at e
        · exact useC_mono (fun _ _ _ _ _ _ _ _ _ _ _ _ e=>h.at e fun _ hp=>hp) e
        · exact h.at e fun _ hp=>hp
      · exact h.at e fun _ hp=>hp
  | _=>cases e
theorem sim_mono:∀ n,Mono (sim prog P gl d₀ J Z n)
  | 0=>fun c κ t T m i hs cs acc r T' m' i' acc' e=>by cases e
  | n+1=>step_mono (sim_mono n)
theorem Good.acc {n c κ t T m i hs cs acc Post}(h:Good (sim prog P gl d₀ J Z n c κ t T m i hs cs acc) Post):∀ p∈acc,p.1=p.2:=by
  cases e:sim prog P gl d₀ J Z n c κ t T m i hs cs acc with
  | bad=>rw [e] at h;cases h
  | done r T' m' i' acc' =>
    rw [e] at h
    exact fun p hp=>h.1 p (sim_mono n _ _ _ _ _ _ _ _ _ _ _ _ _ _ e p hp)
end
theorem weight_le {c:Code}(h:c.isCaller=false):c.weight≤5:=by
  unfold Code.weight
  rw [h]
  have hf:c.frames≤3:=by
    unfold Code.frames
    split<;>first | omega | (simp [Code.isCaller] at h;done) | (split<;>omega)
  have h1:(if c.isCreation=true then 1 else 0)≤1:=by split<;>omega
  have h2:(if c.isGuard=true then 1 else 0)≤1:=by split<;>omega
  simp only [Bool.false_eq_true,if_false]
  omega
theorem cUnits_le (c:Code):c.cUnits≤10:=by
  have hf:c.frames≤3:=by
    unfold Code.frames
    split<;>first | omega | (split<;>omega)
  unfold Code.cUnits
  split<;>omega
noncomputable def arounds (A₀:Around):Kon→Around
  | []=>A₀
  | x::κ=>(arounds A₀ κ).under x.1
theorem arounds_handled (A₀:Around)(h:A₀.handled=none):∀ κ,(arounds A₀ κ).handled=none
  | []=>h
  | _::κ=>arounds_handled A₀ h κ
theorem arounds_small {A₀:Around}{d₀:Nat}(h:Small A₀ d₀):∀ κ,lightK κ=true→(arounds A₀ κ).depth≤d₀+5*κ.length∧(arounds A₀ κ).units≤10*d₀+10*κ.length
  | [],_=>⟨h.2.1,h.2.2⟩
  | (c,k)::κ,hl=>by
    unfold lightK at hl
    cases q:callerZ c with
    | true=>rw [q] at hl;cases hl
    | false =>
      rw [q] at hl
      obtain ⟨h1,h2⟩:=arounds_small h κ hl
      rw [← callerZ_eq] at q
      have hw:=weight_le q
      have hu:=cUnits_le c
      constructor
      · show (arounds A₀ κ).depth+c.weight≤_
        rw [List.length_cons];omega
      · show (arounds A₀ κ).units+c.cUnits≤_
        rw [List.length_cons];omega
theorem roomOk_small {A₀:Around}{d₀ lim:Nat}{c:Code}{κ:Kon}(h:Small A₀ d₀)(hr:roomOk d₀ lim c κ=true):Small (arounds A₀ κ) lim∧Small ((arounds A₀ κ).under c) lim:=by
  unfold roomOk at hr
  cases q:callerZ c with
  | true=>rw [q] at hr;cases hr
  | false =>
    rw [q] at hr
    cases q2:lightK κ with
    | false=>rw [q2] at hr;cases hr
    | true =>
      rw [q2] at hr
      have hb:=Nat.le_of_ble_eq_true hr
      obtain ⟨h1,h2⟩:=arounds_small h κ q2
      rw [← callerZ_eq] at q
      have hw:=weight_le q
      have hu:=cUnits_le c
      have hh:=arounds_handled A₀ h.1 κ
      refine ⟨⟨hh,by omega,by omega⟩,hh,?_,?_⟩
      · show (arounds A₀ κ).depth+c.weight≤_
        omega
      · show (arounds A₀ κ).units+c.cUnits≤_
        omega
theorem roomC_small {A₀:Around}{tl:Bool}{d₀ lim:Nat}{c:Code}{κ:Kon}(h:Small A₀ d₀)(hr:roomC tl d₀ lim c κ=true):Small (arounds A₀ κ) lim∧(tl=false→Small ((arounds A₀ κ).under c) lim):=by
  cases tl with
  | false=>exact ⟨(roomOk_small h hr).1,fun _=>(roomOk_small h hr).2⟩
  | true =>
    unfold roomC at hr
    dsimp only at hr
    cases q2:lightK κ with
    | false=>rw [q2] at hr;cases hr
    | true =>
      rw [q2] at hr
      have hb:=Nat.le_of_ble_eq_true hr
      obtain ⟨h1,h2⟩:=arounds_small h κ q2
      exact ⟨⟨arounds_handled A₀ h.1 κ,by omega,by omega⟩,fun z=>by cases z⟩
section
variable {prog:Program}{w:World}(A₀:Around)(R₀:Result→Shared→Prop)
noncomputable def ends (prog:Program)(w:World):Kon→Result→Shared→Prop
  | []=>R₀
  | x::κ=>fun r s=>wpOwn (model prog w) (arounds A₀ κ) x.1 (x.2 r) (postC prog w (arounds A₀ κ) (ends prog w κ)) (postE (ends prog w κ)) s
def Means (prog:Program)(w:World)(κ:Kon)(c:Code)(t:Sem Fin)(s:Shared):Prop :=
  wpOwn (model prog w) (arounds A₀ κ) c t (postC prog w (arounds A₀ κ) (ends A₀ R₀ prog w κ)) (postE (ends A₀ R₀ prog w κ)) s
end
theorem nodupB_iff:∀ {l:List Nat},nodupB l=true→l.Nodup
  | [],_=>List.nodup_nil
  | i::is,h=>by
    unfold nodupB at h
    cases q:is.any (fun j=>Nat.beq i j) with
    | true=>rw [q] at h;cases h
    | false =>
      rw [q] at h
      refine List.nodup_cons.mpr ⟨fun hm=>?_,nodupB_iff h⟩
      have:is.any (fun j=>Nat.beq i j)=true:=List.any_eq_true.mpr ⟨i,hm,Nat.beq_refl i⟩
      rw [q] at this;cases this
theorem preObs_all (T:BT):∀ {is:List Nat} {os:List Obj} {acc:List (Ob×Ob)},(∀ p∈preObs T is os acc,p.1=p.2)→is.map T.get=os.map some
  | [],[],_,_=>rfl
  | [],_::_,_,h=>by have:=h _ mS;cases this
  | _::_,[],_,h=>by have:=h _ mS;cases this
  | i::is,o::os,acc,h=>by
    have h1:=h (.o (T.get i),.o (some o)) (show _∈preObs T is os ((.o (T.get i),.o (some o))::acc) from preObs_sub T is os _ _ mS)
    injection h1 with h1
    rw [List.map_cons,List.map_cons,h1,preObs_all (is:=is) (os:=os) T h]
theorem setAll_get:∀ {is:List Nat} {os:List Obj} {T:BT},is.length=os.length→is.Nodup→∀ {i:Nat} {o:Obj},(setAll T is os).get i=some o →
    (∃ j:Nat,is[j]?=some i∧os[j]?=some o)∨(i ∉ is∧T.get i=some o)
  | [],[],_,_,_,_,_,e=>.inr ⟨by simp,e⟩
  | [],_::_,_,h,_,_,_,_=>by cases h
  | _::_,[],_,h,_,_,_,_=>by cases h
  | a::is,b::os,T,h,hn,i,o,e=>by
    have hl:is.length=os.length:=by simpa using h
    obtain ⟨hn1,hn2⟩:=List.nodup_cons.mp hn
    rcases setAll_get hl hn2 e with ⟨j,h1,h2⟩ | ⟨h1,h2⟩
    · exact .inl ⟨j+1,by simpa using h1,by simpa using h2⟩
    · rw [BT.get_set] at h2
      by_cases q:i=a
      · subst q
        rw [if_pos rfl] at h2
        cases z:T.get i with
        | none=>rw [z] at h2;cases h2
        | some x=>rw [z] at h2;cases h2;exact .inl ⟨0,rfl,rfl⟩
      · rw [if_neg q] at h2
        exact .inr ⟨by simp [q,h1],h2⟩
theorem insAll_get:∀ {os:List Obj} {T T':BT} {m:Nat},insAll T m os=some T'→∀ {i:Nat} {o:Obj},T'.get i=some o →
    (∃ j:Nat,i=m+j∧os[j]?=some o)∨(T.get i=some o∧∀ j,j<os.length→i≠m+j)
  | [],T,T',m,e,i,o,h=>by
    unfold insAll at e;cases e
    exact .inr ⟨h,fun j hj=>by simp at hj⟩
  | b::os,T,T',m,e,i,o,h=>by
    unfold insAll at e
    cases q:(T.ins m b).get m with
    | none=>rw [q] at e;cases e
    | some x =>
      rw [q] at e
      rcases insAll_get e h with ⟨j,h1,h2⟩ | ⟨h1,h2⟩
      · exact .inl ⟨j+1,by omega,by simpa using h2⟩
      · rw [BT.get_ins b T m (by rw [q];rfl)] at h1
        by_cases z:i=m
        · rw [if_pos z] at h1
          cases h1
          exact .inl ⟨0,by omega,rfl⟩
        · rw [if_neg z] at h1
          refine .inr ⟨h1,fun j hj=>?_⟩
          cases j with
          | zero=>simpa using z
          | succ j=>have:=h2 j (by simpa using hj);omega
section
variable {gl:Addr→Option Obj}{s₀:Shared}{m₀:Nat}{J:Nu}{T:BT}{m:Nat}{s:Shared}
theorem Rep.push (D:Rep gl s₀ m₀ J T m s){o:Obj}(hf:o.isFreed=false)(hg:((T.ins m o).get m).isSome=true) :
    Rep gl s₀ m₀ (fun j=>if j=m then s.heap.objs.size else J j) (T.ins m o) (m+1) { s with heap:=s.heap.push o }:=by
  have sz:(s.heap.push o).objs.size=s.heap.objs.size+1:=Heap.size_push ..
  refine ⟨fun i o' e=>?_,fun i j hi hj e=>?_,fun i hi=>?_,fun i hi=>?_,fun i h1 h2=>?_,Nat.le_succ_of_le D.mle,fun a o' e=>Heap.get?_push_of_some _ (D.glob a o' e),fun b o' e q=>?_,?_,D.gens,D.drawn,D.os,D.toks,fun j=>?_,D.big⟩
  · rw [BT.get_ins o T m hg] at e
    by_cases h:i=m
    · rw [if_pos h] at e;cases e
      refine ⟨by omega,?_⟩
      show (s.heap.push o).get? (if i=m then _ else _)=_
      rw [if_pos h]
      exact Heap.get?_push_size _ hf
    · rw [if_neg h] at e
      obtain ⟨h1,h2⟩:=D.own i o' e
      refine ⟨by omega,?_⟩
      show (s.heap.push o).get? (if i=m then _ else _)=_
      rw [if_neg h]
      exact Heap.get?_push_of_some _ h2
  · by_cases h1:i=m
    · by_cases h2:j=m
      · omega
      · exfalso
        have:=D.lt j (by omega)
        simp only [h1,h2,if_true,if_false] at e
        omega
    · by_cases h2:j=m
      · exfalso
        have:=D.lt i (by omega)
        simp only [h1,h2,if_true,if_false] at e
        omega
      · simp only [h1,h2,if_false] at e
        exact D.inj i j (by omega) (by omega) e
  · show (if i=m then _ else _)<(s.heap.push o).objs.size
    rw [sz]
    by_cases h:i=m
    · rw [if_pos h];omega
    · rw [if_neg h];have:=D.lt i (by omega);omega
  · show gl (if i=m then _ else _)=none
    by_cases h:i=m
    · rw [if_pos h]
      cases q:gl s.heap.objs.size with
      | none=>rfl
      | some x=>exact absurd (Heap.lt_size (D.glob _ _ q)) (Nat.lt_irrefl _)
    · rw [if_neg h];exact D.out i (by omega)
  · show _≤(if i=m then _ else _)
    by_cases h:i=m
    · rw [if_pos h];exact D.size
    · rw [if_neg h];exact D.new i h1 (by omega)
  · refine Heap.get?_push_of_some _ (D.keep b o' e fun i hi=>?_)
    have:=q i hi
    have hm:=D.mle
    simpa only [show i≠m from by omega,if_false] using this
  · show _≤(s.heap.push o).objs.size
    rw [sz];have:=D.size;omega
  · show 183≤(if j=m then _ else _)
    split
    · exact Nat.le_trans D.big D.size
    · exact D.low j
theorem Rep.upd (D:Rep gl s₀ m₀ J T m s){j:Nat}{o:Obj}{f:Obj→Obj}(e:T.get j=some o)(hf:(f o).isFreed=false) :
    Rep gl s₀ m₀ J (T.set j f) m { s with heap:=s.heap.update (J j) f }:=by
  obtain ⟨hj,ho⟩:=D.own j o e
  have hs:Heap.SameBut (J j) s.heap (s.heap.update (J j) f):=Heap.SameBut.update ..
  have ge:(s.heap.update (J j) f).get? (J j)=some (f o):=by first | exact Heap.get?_update_self f ho hf | exact Heap.get?_update_self _ ho hf
  refine ⟨fun i o' e'=>?_,D.inj,fun i hi=>?_,D.out,D.new,D.mle,fun a o' e'=>?_,fun b o' e' q=>?_,?_,D.gens,D.drawn,D.os,D.toks,D.low,D.big⟩
  · rw [BT.get_set] at e'
    by_cases h:i=j
    · rw [if_pos h,e] at e';cases e'
      exact ⟨by omega,h▸ge⟩
    · rw [if_neg h] at e'
      obtain ⟨h1,h2⟩:=D.own i o' e'
      exact ⟨h1,(hs.2 _ fun z=>h (D.inj i j h1 hj z)).trans h2⟩
  · show J i<(s.heap.update (J j) f).objs.size
    rw [hs.1];exact D.lt i hi
  · refine (hs.2 a fun z=>?_).trans (D.glob a o' e')
    have:=D.out j hj
    rw [← z,e'] at this;cases this
  · refine (hs.2 b fun z=>?_).trans (D.keep b o' e' q)
    by_cases h:j<m₀
    · exact q j h z.symm
    · have h1:=D.new j (by omega) hj
      subst z
      exact absurd (Heap.lt_size e') (Nat.not_lt.mpr h1)
  · show _≤(s.heap.update (J j) f).objs.size
    rw [hs.1];exact D.size
theorem Rep.tok (D:Rep gl s₀ m₀ J T m s):Rep gl s₀ m₀ J T m { s with toks:=s.toks+1 } :=
  ⟨D.own,D.inj,D.lt,D.out,D.new,D.mle,D.glob,D.keep,D.size,D.gens,D.drawn,D.os,Nat.le_succ_of_le D.toks,D.low,D.big⟩
theorem Rep.ctr (D:Rep gl s₀ m₀ J T m s){is:List Nat}{post new:List Obj}{k:Nat}{J':Nu}{T':BT}{s':Shared}{pre:List Obj}(hpre:is.map T.get=pre.map some)(hlen:is.length=post.length)(hnd:is.Nodup)
    (hlow:∀ j,183≤J' j) (ha:Agree m J' J) (hp:Has s'.heap (is.map J) post) (hk:new.length=k) (hn:Has s'.heap ((List.range k).map fun j=>J' (m+j)) new) (hfr:∀ j,j<k→s.heap.objs.size≤J' (m+j))
    (hinj:∀ j j',j<k→j'<k→J' (m+j)=J' (m+j')→j=j') (F:After gl (is.map J) s s') (ht:insAll (setAll T is post) m new=some T'):Rep gl s₀ m₀ J' T' (m+k) s':=by
  have lts:∀ i∈is,i<m:=fun i hi=>by
    obtain ⟨j,hj⟩:=List.mem_iff_getElem?.mp hi
    have:=congrArg (fun l=>l[j]?) hpre
    simp only [List.getElem?_map,hj,Option.map_some] at this
    cases q:pre[j]? with
    | none=>rw [q] at this;cases this
    | some o=>rw [q] at this;exact (D.own i o (Option.some.inj this)).1
  have split:∀ i,i<m+k→i<m∨∃ j,j<k∧i=m+j:=fun i hi=>by
    by_cases h:i<m
    · exact .inl h
    · exact .inr ⟨i-m,by omega,by omega⟩
  have newlt:∀ j,j<k→J' (m+j)<s'.heap.objs.size:=fun j hj=>by
    obtain ⟨o,_,h2⟩:=Has.at hn (j:=j) (a:=J' (m+j)) (by rw [List.getElem?_map,List.getElem?_range hj];rfl)
    exact Heap.lt_size h2
  refine ⟨fun i o e=>?_,fun i j hi hj e=>?_,fun i hi=>?_,fun i hi=>?_,fun i h1 h2=>?_,by have:=D.mle;omega,F.glob,fun b o e q=>?_,Nat.le_trans D.size F.size,F.gens.trans D.gens,F.drawn.trans D.drawn,F.os.trans D.os,Nat.le_trans D.toks F.toks,hlow,D.big⟩
  · rcases insAll_get ht e with ⟨j,h1,h2⟩ | ⟨h1,h2⟩
    · have hj:j<k:=by
        have:=(List.getElem?_eq_some_iff.mp h2).1
        omega
      obtain ⟨o',h3,h4⟩:=Has.at hn (j:=j) (a:=J' (m+j)) (by rw [List.getElem?_map,List.getElem?_range hj];rfl)
      rw [h2] at h3;cases h3
      exact ⟨by omega,h1▸h4⟩
    · rcases setAll_get hlen hnd h1 with ⟨j,h3,h4⟩ | ⟨h3,h4⟩
      · have hi:i<m:=lts i (List.mem_of_getElem? h3)
        obtain ⟨o',h5,h6⟩:=Has.at hp (j:=j) (a:=J i) (by rw [List.getElem?_map,h3];rfl)
        rw [h4] at h5;cases h5
        exact ⟨by omega,by rw [ha i hi];exact h6⟩
      · obtain ⟨hi,h5⟩:=D.own i o h4
        refine ⟨by omega,?_⟩
        rw [ha i hi]
        refine F.keep _ _ h5 fun hm=>?_
        obtain ⟨j,hj,e'⟩:=List.mem_map.mp hm
        exact h3 (D.inj j i (lts j hj) hi e'▸hj)
  · rcases split i hi with h1 | ⟨a,h1,rfl⟩<;>rcases split j hj with h2 | ⟨b,h2,rfl⟩
    · rw [ha i h1,ha j h2] at e;exact D.inj i j h1 h2 e
    · exfalso;rw [ha i h1] at e;have:=D.lt i h1;have:=hfr b h2;omega
    · exfalso;rw [ha j h2] at e;have:=D.lt j h2;have:=hfr a h1;omega
    · rw [hinj a b h1 h2 e]
  · rcases split i hi with h1 | ⟨a,h1,rfl⟩
    · rw [ha i h1];exact Nat.lt_of_lt_of_le (D.lt i h1) F.size
    · exact newlt a h1
  · rcases split i hi with h1 | ⟨a,h1,rfl⟩
    · rw [ha i h1];exact D.out i h1
    · cases q:gl (J' (m+a)) with
      | none=>rfl
      | some o =>
        have h2:J' (m+a)<s.heap.objs.size:=Heap.lt_size (D.glob _ _ q)
        have:=hfr a h1;omega
  · rcases split i h2 with h3 | ⟨a,h3,rfl⟩
    · rw [ha i h3];exact D.new i h1 h3
    · exact Nat.le_trans D.size (hfr a h3)
  · have hb:=D.keep b o e fun i hi=>by
      have:=q i hi
      rwa [ha i (Nat.lt_of_lt_of_le hi D.mle)] at this
    refine F.keep b o hb fun hm=>?_
    obtain ⟨j,hj,e'⟩:=List.mem_map.mp hm
    have hjm:=lts j hj
    by_cases h:j<m₀
    · exact q j h (by rw [ha j hjm];exact e')
    · have h1:=D.new j (by omega) hjm
      subst e'
      exact absurd (Heap.lt_size e) (Nat.not_lt.mpr h1)
end
theorem obA {x y:Nat}(h:Ob.a x=Ob.a y):x=y:=by injection h
theorem obB {x y:Bool}(h:Ob.b x=Ob.b y):x=y:=by injection h
theorem obT {x y:Sem Fin}(h:Ob.t x=Ob.t y):x=y:=by injection h
theorem obC {x y:Code}(h:Ob.c x=Ob.c y):x=y:=by injection h
theorem obF {x y:Pos→List (Code×Pos)→Sem Fin}(h:Ob.f x=Ob.f y):x=y:=by injection h
section
variable {prog:Program}{w:World}{P:Params}{gl:Addr→Option Obj}{d₀:Nat}{A₀:Around}{R₀:Result→Shared→Prop}{s₀:Shared}{m₀:Nat}
noncomputable abbrev PostOf (gl:Addr→Option Obj)(R₀:Result→Shared→Prop)(s₀:Shared)(m₀:Nat)(J:Nu):Result→BT→Nat→Nat→Prop:=fun r T m _=>∀ s',Rep gl s₀ m₀ J T m s'→R₀ r s'
def Hyp (prog:Program)(P:Params)(gl:Addr→Option Obj)(d₀:Nat)(R₀:Result→Shared→Prop)(s₀:Shared)(m₀ m i:Nat)(J₁ Z₁:Nu)(f:Nu→Nu→Out):Prop :=
  ∀ J Z,AgU m J J₁→Agree i Z Z₁→Good (f J Z) (PostOf gl R₀ s₀ m₀ J)
def ValidAll (prog:Program)(w:World)(gl:Addr→Option Obj)(cs:List Ev):Prop:=∀ e∈cs,ValidC prog w gl e
def IHt (prog:Program)(w:World)(P:Params)(gl:Addr→Option Obj)(d₀:Nat)(A₀:Around)(R₀:Result→Shared→Prop)(s₀:Shared)(m₀ n:Nat):Prop :=
  ∀ c κ t T m i hs cs acc J₁ Z₁ s,Hyp prog P gl d₀ R₀ s₀ m₀ m i J₁ Z₁ (fun J Z=>sim prog P gl d₀ J Z n c κ t T m i hs cs acc)→Rep gl s₀ m₀ J₁ T m s→ValidAll prog w gl cs→Means A₀ R₀ prog w κ c t s
theorem ret_sound {n:Nat}(IH:IHt prog w P gl d₀ A₀ R₀ s₀ m₀ n){r:Result}{κ:Kon}{T:BT}{m i:Nat}{hs:List Nat}{cs:List Ev}{acc:List (Ob×Ob)}{J₁ Z₁:Nu}{s:Shared}
    (H:Hyp prog P gl d₀ R₀ s₀ m₀ m i J₁ Z₁ fun J Z=>retS (sim prog P gl d₀ J Z n) r κ T m i hs cs acc) (D:Rep gl s₀ m₀ J₁ T m s) (V:ValidAll prog w gl cs):ends A₀ R₀ prog w κ r s:=by
  cases κ with
  | nil=>exact (H J₁ Z₁ ⟨D.low,Agree.refl _ _⟩ (Agree.refl _ _)).2 s D
  | cons x κ=>exact IH _ _ _ _ _ _ _ _ _ _ _ _ H D V
theorem nodup_map_on {α β:Type}{f:α→β}:∀ {l:List α},(∀ a∈l,∀ b∈l,f a=f b→a=b)→l.Nodup→(l.map f).Nodup
  | [],_,_=>List.nodup_nil
  | a::l,h,hn=>by
    obtain ⟨h1,h2⟩:=List.nodup_cons.mp hn
    rw [List.map_cons]
    refine List.nodup_cons.mpr ⟨fun hm=>?_,nodup_map_on (fun x hx y hy=>h x (mO hx) y (mO hy)) h2⟩
    obtain ⟨b,hb,e⟩:=List.mem_map.mp hm
    exact h1 (h a mS b (mO hb) e.symm▸hb)
theorem Good.accOf {o:Out}{acc:List (Ob×Ob)}{Post:Result→BT→Nat→Nat→Prop}(h:Good o Post)(hm:∀ r T m i a',o=.done r T m i a'→∀ p∈acc,p∈a'):∀ p∈acc,p.1=p.2:=by
  cases o with
  | bad=>cases h
  | done r T m i a'=>exact fun p hp=>h.1 p (hm _ _ _ _ _ rfl p hp)
noncomputable def cap (n:Nat)(f:Nu):Nu:=fun j=>if j<n then f j else 183
theorem cap_lt {n j:Nat}{f:Nu}(h:j<n):cap n f j=f j:=if_pos h
theorem cap_ge {n j:Nat}{f:Nu}(h:n≤j):cap n f j=183:=if_neg (by omega)
theorem useC_sound {tl:Bool}{n:Nat}(hA:Small A₀ d₀){e:Ev}{es:List Ev}{c:Code}{κ:Kon}{c':Code}{next:Nu→Nu→Result→St}{X:Result→Shared→Prop}{T:BT}{m i:Nat}{hs:List Nat}{cs:List Ev}{acc:List (Ob×Ob)}{J₁ Z₁:Nu}{s:Shared}{ihf:Nu→Nu→SimT}
    (hmono:∀ J Z r T m i hs cs acc r' T' m' i' acc',next J Z r T m i hs cs acc=.done r' T' m' i' acc'→∀ p∈acc,p∈acc')
    (H:Hyp prog P gl d₀ R₀ s₀ m₀ m i J₁ Z₁ fun J Z=>useC d₀ J Z tl (ihf J Z) e es c κ c' (next J Z) T m i hs cs acc) (D:Rep gl s₀ m₀ J₁ T m s) (V:ValidC prog w gl e)
    (K:∀ r T' m' i' acc' J₂ Z₂ s',Hyp prog P gl d₀ R₀ s₀ m₀ m' i' J₂ Z₂ (fun J Z=>next J Z r T' m' i' hs es acc')→Rep gl s₀ m₀ J₂ T' m' s'→X r s') :
    (∀ A,Small A e.d→codeAny (model prog w) A c' X s)∧Small (arounds A₀ κ) e.d∧(tl=false→Small ((arounds A₀ κ).under c) e.d):=by
  have H1:=H J₁ Z₁ ⟨D.low,Agree.refl _ _⟩ (Agree.refl _ _)
  unfold useC at H1
  dsimp only at H1
  cases q:insAll (setAll T (e.C (trunc (m+e.k) J₁) (trunc (i+e.nt) Z₁)).idx (e.C (trunc (m+e.k) J₁) (trunc (i+e.nt) Z₁)).post) m (e.C (trunc (m+e.k) J₁) (trunc (i+e.nt) Z₁)).new with
  | none=>rw [q] at H1;cases H1
  | some T1 =>
    rw [q] at H1
    dsimp only at H1
    have obs:=Good.accOf H1 (fun _ _ _ _ _ z=>hmono _ _ _ _ _ _ _ _ _ _ _ _ _ _ z)
    unfold ctrObs at obs
    have o1:=obC (obs _ mS)
    have o2:=Nat.eq_of_beq_eq_true (obB (obs _ (mO mS)))
    have o3:=Nat.eq_of_beq_eq_true (obB (obs _ (mO (mO mS))))
    have o5:=Nat.eq_of_beq_eq_true (obB (obs _ (mO (mO (mO (mO mS))))))
    have o6:=nodupB_iff (obB (obs _ (mO (mO (mO (mO (mO mS)))))))
    have o7:=obB (obs _ (mO (mO (mO (mO (mO (mO mS)))))))
    have o8:=preObs_all T (fun p hp=>obs p (by (iterate 7 (refine mO ?_));exact hp))
    obtain ⟨sm1,sm2⟩:=roomC_small hA o7
    refine ⟨fun A sA=>?_,sm1,sm2⟩
    have em:m=e.m:=o2
    have ei:i=e.i:=o3
    subst c'
    have lts:∀ j∈(e.C (trunc (m+e.k) J₁) (trunc (i+e.nt) Z₁)).idx,∃ o,T.get j=some o:=fun j hj=>by
      obtain ⟨a,ha⟩:=List.mem_iff_getElem?.mp hj
      have:=congrArg (fun l=>l[a]?) o8
      simp only [List.getElem?_map,ha,Option.map_some] at this
      cases z:(e.C (trunc (m+e.k) J₁) (trunc (i+e.nt) Z₁)).pre[a]? with
      | none=>rw [z] at this;cases this
      | some o=>rw [z] at this;exact ⟨o,Option.some.inj this⟩
    have same:(e.C (trunc (m+e.k) J₁) (trunc (i+e.nt) Z₁)).idx.map (trunc (m+e.k) J₁)=(e.C (trunc (m+e.k) J₁) (trunc (i+e.nt) Z₁)).idx.map J₁:=by
      refine List.map_congr_left fun j hj=>?_
      obtain ⟨o,ho⟩:=lts j hj
      have:=(D.own j o ho).1
      exact trunc_lt J₁ (by omega)
    refine codeAny_mono (V (trunc (m+e.k) J₁) (trunc (i+e.nt) Z₁) A s sA D.glob ?_ ?_ ?_) ?_
    · rw [same]
      show List.map _ _=_
      rw [List.map_map]
      have h1:∀ {is:List Nat} {os:List Obj},is.map T.get=os.map some→is.map (fun j=>s.heap.get? (J₁ j))=os.map some:=by
        intro is
        induction is with
        | nil=>intro os h;cases os with | nil=>rfl | cons=>cases h
        | cons j is ih =>
          intro os h
          cases os with
          | nil=>cases h
          | cons o os =>
            rw [List.map_cons,List.map_cons] at h ⊢
            injection h with h1 h2
            rw [ih h2,(D.own j o h1).2]
      exact h1 o8
    · rw [same]
      refine nodup_map_on (fun a ha b hb z=>?_) o6
      obtain ⟨oa,ha⟩:=lts a ha
      obtain ⟨ob,hb⟩:=lts b hb
      exact D.inj a b (D.own a oa ha).1 (D.own b ob hb).1 z
    · rw [same]
      intro a ha
      obtain ⟨j,hj,rfl⟩:=List.mem_map.mp ha
      obtain ⟨o,ho⟩:=lts j hj
      exact ⟨D.out j (D.own j o ho).1,D.low j⟩
    · rintro r s' ⟨J',Z',ha,hb,hz,hzt,rfl,hidx,hpost,hnew,hfr,hinj,F⟩
      rw [← em] at ha hz hnew hfr hinj
      rw [← ei] at hb hzt
      rw [same] at hpost F
      have t2:trunc (i+e.nt) Z'=Z':=trunc_self hzt
      have ag:Agree m J' J₁:=fun j hj=>(ha j hj).trans (trunc_lt J₁ (by omega))
      have agt:Agree i Z' Z₁:=fun j hj=>(hb j hj).trans (trunc_lt Z₁ (by omega))
      have lt2:∀ j,j<m+e.k→(cap (m+e.k) J') j=J' j:=fun j hj=>cap_lt hj
      have t1:trunc (m+e.k) (cap (m+e.k) J')=J':=by
        funext j
        by_cases hj:j<m+e.k
        · rw [trunc_lt _ hj,lt2 j hj]
        · rw [trunc_ge _ (by omega),hz j (by omega)]
      have low:∀ j,183≤(cap (m+e.k) J') j:=fun j=>by
        by_cases hj:j<m+e.k
        · rw [lt2 j hj]
          by_cases h:j<m
          · rw [ag j h];exact D.low j
          · obtain ⟨x,rfl⟩:∃ x,j=m+x:=⟨j-m,by omega⟩
            have h1:=hfr x (by omega)
            have h2:=D.size
            have h3:=D.big
            omega
        · rw [cap_ge (by omega)];exact Nat.le_refl _
      have ag2:Agree m (cap (m+e.k) J') J₁:=fun j hj=>(lt2 j (by omega)).trans (ag j hj)
      have H2:=H _ Z' ⟨low,ag2⟩ agt
      unfold useC at H2
      dsimp only at H2
      rw [t1,t2] at H2
      cases q2:insAll (setAll T (e.C J' Z').idx (e.C J' Z').post) m (e.C J' Z').new with
      | none=>rw [q2] at H2;cases H2
      | some T2 =>
        rw [q2] at H2
        dsimp only at H2
        have obs2:=Good.accOf H2 (fun _ _ _ _ _ z=>hmono _ _ _ _ _ _ _ _ _ _ _ _ _ _ z)
        unfold ctrObs at obs2
        have p4:=Nat.eq_of_beq_eq_true (obB (obs2 _ (mO (mO (mO mS)))))
        have p5:=Nat.eq_of_beq_eq_true (obB (obs2 _ (mO (mO (mO (mO mS))))))
        have R':=Rep.ctr D (J':=cap (m+e.k) J') (pre:=(e.C (trunc (m+e.k) J₁) (trunc (i+e.nt) Z₁)).pre) (is:=(e.C J' Z').idx) (by rw [hidx];exact o8) p5 (by rw [hidx];exact o6) low ag2 (by rw [hidx];exact hpost) p4
          (by rw [show (List.range e.k).map (fun j=>(cap (m+e.k) J') (m+j))=(List.range e.k).map fun j=>J' (m+j) from List.map_congr_left fun j hj=>lt2 _ (by have:=List.mem_range.mp hj;omega)];exact hnew)
          (fun j hj=>by rw [lt2 (m+j) (by omega)];exact hfr j hj) (fun j j' hj hj' z=>hinj j j' hj hj' (by rw [lt2 (m+j) (by omega),lt2 (m+j') (by omega)] at z;exact z)) (by rw [hidx];exact F) q2
        refine K (e.C J' Z').res T2 (m+e.k) (i+e.nt) (ctrObs d₀ tl e c κ (e.C (trunc (m+e.k) J₁) (trunc (i+e.nt) Z₁)).code T m i (e.C J' Z') acc) _ Z' s' (fun J Z h1 h2=>?_) R'
        have H3:=H J Z ⟨h1.1,fun j hj=>(h1.2 j (by omega)).trans (ag2 j hj)⟩ (fun j hj=>(h2 j (by omega)).trans (agt j hj))
        unfold useC at H3
        dsimp only at H3
        rw [trunc_eq h1.2,trunc_eq h2,t1,t2,q2] at H3
        exact H3
theorem step_sound {n:Nat}(hP:w.params=P)(hA:Small A₀ d₀)(hlim:∀ s:Shared,(∀ a o,gl a=some o→s.heap.get? a=some o)→s.heap.NoLimit)(IH:IHt prog w P gl d₀ A₀ R₀ s₀ m₀ n):IHt prog w P gl d₀ A₀ R₀ s₀ m₀ (n+1):=by
  intro c κ t T m i hs cs acc J₁ Z₁ s H D V
  have H':Hyp prog P gl d₀ R₀ s₀ m₀ m i J₁ Z₁ (fun J Z=>simStep prog P gl d₀ J Z (sim prog P gl d₀ J Z n) c κ t T m i hs cs acc):=H
  clear H
  have hh:=arounds_handled A₀ hA.1 κ
  cases t with
  | pure fin =>
    cases fin with
    | done f=>exact y_pure _ _ _ _ _ _ _ _ _ (y_done _ _ _ _ _ _ (ret_sound IH H' D V))
    | again c' =>
      have quiet:∀ {acc':List (Ob×Ob)} {x:Nu→Nu→Out},Hyp prog P gl d₀ R₀ s₀ m₀ m i J₁ Z₁ x→(∀ r T' m' i' a',x J₁ Z₁=.done r T' m' i' a'→(Ob.b (quietZ c'),Ob.b true)∈a')→c'.quiet=true:=by
        intro acc' x h hm
        have h1:=h J₁ Z₁ ⟨D.low,Agree.refl _ _⟩ (Agree.refl _ _)
        cases z:x J₁ Z₁ with
        | bad=>rw [z] at h1;cases h1
        | done r T' m' i' a' =>
          rw [z] at h1
          rw [quietZ_eq]
          exact obB (h1.1 _ (hm _ _ _ _ _ z))
      cases cs with
      | nil =>
        have hq:=quiet (acc':=acc) H' fun r T' m' i' a' z=>sim_mono n _ _ _ _ _ _ _ _ _ _ _ _ _ _ z _ mS
        refine y_pure _ _ _ _ _ _ _ _ _ (y_again _ _ _ _ _ _ hq (y_code _ _ _ _ _ _ ?_))
        refine wpOwn_denX ?_
        exact IH _ _ _ _ _ _ _ _ _ _ _ _ H' D V
      | cons e es =>
        cases hsk:e.skip with
        | zero =>
          simp only [simStep,hsk] at H'
          have hq:=quiet (acc':=acc) H' fun r T' m' i' a' z=>useC_mono (fun _ _ _ _ _ _ _ _ _ _ _ _ z=>retS_mono (sim_mono n) z) z _ mS
          obtain ⟨z1,z2,z3⟩:=useC_sound (X:=ends A₀ R₀ prog w κ) (n:=n) hA (fun J Z _ _ _ _ _ _ _ _ _ _ _ _ z=>retS_mono (sim_mono n) z) H' D (V e mS)
            (fun r T' m' i' acc' J₂ Z₂ s' h1 h2=>ret_sound IH h1 h2 fun x hx=>V x (mO hx))
          exact y_pure _ _ _ _ _ _ _ _ _ (y_again _ _ _ _ _ _ hq (z1 _ z2))
        | succ k =>
          simp only [simStep,hsk] at H'
          have hq:=quiet (acc':=acc) H' fun r T' m' i' a' z=>sim_mono n _ _ _ _ _ _ _ _ _ _ _ _ _ _ z _ mS
          refine y_pure _ _ _ _ _ _ _ _ _ (y_again _ _ _ _ _ _ hq (y_code _ _ _ _ _ _ ?_))
          refine wpOwn_denX ?_
          refine IH _ _ _ _ _ _ _ _ _ _ _ _ H' D fun x hx=>?_
          rcases mQ hx with rfl | hx
          · exact V e mS
          · exact V x (mO hx)
  | raise x=>exact y_raise _ _ _ _ _ _ _ _ _ (y_err _ _ _ (ret_sound IH H' D V))
  | rule tag k=>exact y_skim _ _ _ _ _ _ _ _ _ 1 (IH _ _ _ _ _ _ _ _ _ _ _ _ H' D V)
  | «at» q k=>exact y_skim _ _ _ _ _ _ _ _ _ 1 (IH _ _ _ _ _ _ _ _ _ _ _ _ H' D V)
  | point l k=>exact y_skim _ _ _ _ _ _ _ _ _ 1 (IH _ _ _ _ _ _ _ _ _ _ _ _ H' D V)
  | ask k=>exact y_skim _ _ _ _ _ _ _ _ _ 1 (by show wpOwn _ _ _ (k ⟨prog,w.params⟩) _ _ _;rw [hP];exact IH _ _ _ _ _ _ _ _ _ _ _ _ H' D V)
  | load a q k =>
    cases hs with
    | nil=>exact (H' J₁ Z₁ ⟨D.low,Agree.refl _ _⟩ (Agree.refl _ _)).elim
    | cons h hs =>
      cases h with
      | zero =>
        cases g:gl a with
        | none=>simp only [simStep,g] at H';exact (H' J₁ Z₁ ⟨D.low,Agree.refl _ _⟩ (Agree.refl _ _)).elim
        | some o =>
          simp only [simStep,g] at H'
          obtain ⟨hp,gg,d,tk,os⟩:=s
          exact y_load _ _ _ _ _ _ _ _ _ _ _ _ _ _ _ _ (D.glob a o g) (IH _ _ _ _ _ _ _ _ _ _ _ _ H' D V)
      | succ j =>
        cases g:T.get j with
        | none=>simp only [simStep,g] at H';exact (H' J₁ Z₁ ⟨D.low,Agree.refl _ _⟩ (Agree.refl _ _)).elim
        | some o =>
          simp only [simStep,g] at H'
          obtain ⟨hj,ho⟩:=D.own j o g
          have ea:=obA ((H' J₁ Z₁ ⟨D.low,Agree.refl _ _⟩ (Agree.refl _ _)).acc _ mS)
          rw [← ea] at ho
          obtain ⟨hp,gg,d,tk,os⟩:=s
          refine y_load _ _ _ _ _ _ _ _ _ _ _ _ _ _ _ _ ho (IH c κ (k o) T m i hs cs ((.a a,.a (J₁ j))::acc) J₁ Z₁ _ (fun J Z h1 h2=>?_) D V)
          have:=H' J Z h1 h2
          dsimp only at this ⊢
          rwa [h1.2 j hj] at this
  | loadIfAlive a k =>
    cases hs with
    | nil=>exact (H' J₁ Z₁ ⟨D.low,Agree.refl _ _⟩ (Agree.refl _ _)).elim
    | cons h hs =>
      cases h with
      | zero =>
        cases g:gl a with
        | none=>simp only [simStep,g] at H';exact (H' J₁ Z₁ ⟨D.low,Agree.refl _ _⟩ (Agree.refl _ _)).elim
        | some o =>
          simp only [simStep,g] at H'
          obtain ⟨hp,gg,d,tk,os⟩:=s
          exact y_alive _ _ _ _ _ _ _ _ _ _ _ _ _ _ _ (D.glob a o g) (IH _ _ _ _ _ _ _ _ _ _ _ _ H' D V)
      | succ j =>
        cases g:T.get j with
        | none=>simp only [simStep,g] at H';exact (H' J₁ Z₁ ⟨D.low,Agree.refl _ _⟩ (Agree.refl _ _)).elim
        | some o =>
          simp only [simStep,g] at H'
          obtain ⟨hj,ho⟩:=D.own j o g
          have ea:=obA ((H' J₁ Z₁ ⟨D.low,Agree.refl _ _⟩ (Agree.refl _ _)).acc _ mS)
          rw [← ea] at ho
          obtain ⟨hp,gg,d,tk,os⟩:=s
          refine y_alive _ _ _ _ _ _ _ _ _ _ _ _ _ _ _ ho (IH c κ (k (some o)) T m i hs cs ((.a a,.a (J₁ j))::acc) J₁ Z₁ _ (fun J Z h1 h2=>?_) D V)
          have:=H' J Z h1 h2
          dsimp only at this ⊢
          rwa [h1.2 j hj] at this
  | alloc o k =>
    cases g:(T.ins m o).get m with
    | none=>simp only [simStep,g] at H';exact (H' J₁ Z₁ ⟨D.low,Agree.refl _ _⟩ (Agree.refl _ _)).elim
    | some x =>
      simp only [simStep,g] at H'
      have hf:=obB ((H' J₁ Z₁ ⟨D.low,Agree.refl _ _⟩ (Agree.refl _ _)).acc _ mS)
      refine wpOwn_bind (m:=alloc o) (f:=k) (wpOwn_of_wpAny (wpAny_alloc ?_))
      refine IH c κ _ (T.ins m o) (m+1) i hs cs ((.b o.isFreed,.b false)::acc) (fun j=>if j=m then s.heap.objs.size else J₁ j) Z₁ _ (fun J Z h1 h2=>?_) (D.push hf (by rw [g];rfl)) V
      have h3:=h1.2 m (Nat.lt_succ_self m)
      simp only [if_true] at h3
      have:=H' J Z ⟨h1.1,fun j hj=>(h1.2 j (by omega)).trans (if_neg (by omega))⟩ h2
      dsimp only at this ⊢
      rwa [h3] at this
  | update a q f k =>
    cases hs with
    | nil=>exact (H' J₁ Z₁ ⟨D.low,Agree.refl _ _⟩ (Agree.refl _ _)).elim
    | cons h hs =>
      cases h with
      | zero=>exact (H' J₁ Z₁ ⟨D.low,Agree.refl _ _⟩ (Agree.refl _ _)).elim
      | succ j =>
        cases g:T.get j with
        | none=>simp only [simStep,g] at H';exact (H' J₁ Z₁ ⟨D.low,Agree.refl _ _⟩ (Agree.refl _ _)).elim
        | some o =>
          simp only [simStep,g] at H'
          obtain ⟨hj,ho⟩:=D.own j o g
          have ob:=(H' J₁ Z₁ ⟨D.low,Agree.refl _ _⟩ (Agree.refl _ _)).acc
          have ea:=obA (ob _ mS)
          have hf:=obB (ob _ (mO mS))
          have ho':s.heap.get? a=some o:=by rw [ea];exact ho
          refine wpOwn_bind (m:=updatePart a q f) (f:=k) (wpOwn_of_wpAny (wpAny_updatePart ho' ?_))
          refine IH c κ (k ()) (T.set j f) m i hs cs ((.a a,.a (J₁ j))::(.b (f o).isFreed,.b false)::acc) J₁ Z₁ _ (fun J Z h1 h2=>?_) (by rw [ea];exact D.upd g hf) V
          have:=H' J Z h1 h2
          dsimp only at this ⊢
          rwa [h1.2 j hj] at this
  | fresh k =>
    obtain ⟨hp,gg,d,tk,os⟩:=s
    refine y_fresh _ _ _ _ _ _ _ _ _ _ _ _ _ (IH c κ (k tk) T m (i+1) hs cs acc J₁ (fun j=>if j=i then tk else Z₁ j) _ (fun J Z h1 h2=>?_) D.tok V)
    have h3:=h2 i (Nat.lt_succ_self i)
    simp only [if_true] at h3
    have:=H' J Z h1 (fun j hj=>(h2 j (by omega)).trans (if_neg (by omega)))
    simp only [simStep] at this
    rwa [h3] at this
  | handled own k =>
    cases own with
    | true=>exact (H' J₁ Z₁ ⟨D.low,Agree.refl _ _⟩ (Agree.refl _ _)).elim
    | false =>
      refine y_handled _ _ _ _ _ _ _ _ _ ?_
      rw [hh]
      exact IH _ _ _ _ _ _ _ _ _ _ _ _ H' D V
  | stack k =>
    cases hs with
    | nil=>exact (H' J₁ Z₁ ⟨D.low,Agree.refl _ _⟩ (Agree.refl _ _)).elim
    | cons h hs =>
      match h with
      | 0 =>
        simp only [simStep] at H'
        have ob:=obF ((H' J₁ Z₁ ⟨D.low,Agree.refl _ _⟩ (Agree.refl _ _)).acc _ mS)
        refine y_stack _ _ _ _ _ _ _ _ _ fun p below _=>?_
        rw [show k ((c,p)::below)=k [(c,p0)] from congrFun (congrFun ob p) below]
        exact IH _ _ _ _ _ _ _ _ _ _ _ _ H' D V
      | 1 =>
        cases g:gl 2 with
        | none=>simp only [simStep,g] at H';exact (H' J₁ Z₁ ⟨D.low,Agree.refl _ _⟩ (Agree.refl _ _)).elim
        | some o =>
          simp only [simStep,g] at H'
          have ob:=(H' J₁ Z₁ ⟨D.low,Agree.refl _ _⟩ (Agree.refl _ _)).acc
          have et:=obT (ob _ mS)
          obtain ⟨sm1,sm2⟩:=roomOk_small hA (obB (ob _ (mO mS)))
          show wpOwn _ _ _ (Sem.stack k) _ _ _
          have et':Sem.stack k=Sem.bind (enterFrame 0) (fun _=>skipLoad (k [(c,p0)]) o):=by
            rw [et,PySem.W.R.bindR_eq,show twEnter=@enterFrame from PySem.W.Fast.te15066281185411960212.symm]
          rw [et']
          refine wpOwn_bind (m:=enterFrame 0) (wpOwn_of_wpAny (wpAny_enterFrame (hlim s D.glob) (Nat.lt_of_le_of_lt sm2.2.1 (by decide)) ?_))
          exact IH _ _ _ _ _ _ _ _ _ _ _ _ H' D V
      | 2 =>
        simp only [simStep] at H'
        have ob:=(H' J₁ Z₁ ⟨D.low,Agree.refl _ _⟩ (Agree.refl _ _)).acc
        have et:=obT (ob _ mS)
        obtain ⟨sm1,sm2⟩:=roomOk_small hA (obB (ob _ (mO mS)))
        show wpOwn _ _ _ (Sem.stack k) _ _ _
        have et':Sem.stack k=Sem.bind (cRoom "comparison") (fun _=>k [(c,p0)]):=by
          rw [et,PySem.W.R.bindR_eq,show twRoom=@cRoom from PySem.W.Fast.te10648789137845014744.symm]
        rw [et']
        refine wpOwn_bind (m:=cRoom "comparison") (wpOwn_of_wpAny (wpAny_cRoom (Nat.lt_of_le_of_lt sm2.2.2 (by decide)) ?_))
        exact IH _ _ _ _ _ _ _ _ _ _ _ _ H' D V
      | h+3=>exact (H' J₁ Z₁ ⟨D.low,Agree.refl _ _⟩ (Agree.refl _ _)).elim
  | call c' hd g l k =>
    cases hd with
    | some _=>exact (H' J₁ Z₁ ⟨D.low,Agree.refl _ _⟩ (Agree.refl _ _)).elim
    | none =>
      cases cs with
      | nil =>
        refine y_call _ _ _ _ _ _ _ _ _ _ _ _ _ (by intro h;cases h) (y_code _ _ _ _ _ _ ?_)
        refine wpOwn_denX ?_
        exact IH c' ((c,k)::κ) _ _ _ _ _ _ _ _ _ _ H' D V
      | cons e es =>
        cases hsk:e.skip with
        | zero =>
          simp only [simStep,hsk] at H'
          obtain ⟨z1,z2,z3⟩:=useC_sound (X:=postR prog w (arounds A₀ κ) c (postC prog w (arounds A₀ κ) (ends A₀ R₀ prog w κ)) (postE (ends A₀ R₀ prog w κ)) k) (n:=n) hA (fun J Z _ _ _ _ _ _ _ _ _ _ _ _ z=>(sim_mono n).at z fun _ hp=>hp) H' D (V e mS)
            (fun r T' m' i' acc' J₂ Z₂ s' h1 h2=>y_ret _ _ _ _ _ _ _ _ _ _ (IH _ _ _ _ _ _ _ _ _ _ _ _ h1 h2 fun x hx=>V x (mO hx)))
          refine y_call _ _ _ _ _ _ _ _ _ _ _ _ _ (by intro h;cases h) (z1 _ ?_)
          exact z3 rfl
        | succ j =>
          simp only [simStep,hsk] at H'
          refine y_call _ _ _ _ _ _ _ _ _ _ _ _ _ (by intro h;cases h) (y_code _ _ _ _ _ _ ?_)
          refine wpOwn_denX ?_
          refine IH c' ((c,k)::κ) _ _ _ _ _ _ _ _ _ _ H' D fun x hx=>?_
          rcases mQ hx with rfl | hx
          · exact V e mS
          · exact V x (mO hx)
  | _=>exact (H' J₁ Z₁ ⟨D.low,Agree.refl _ _⟩ (Agree.refl _ _)).elim
theorem sim_sound (hP:w.params=P)(hA:Small A₀ d₀)(hlim:∀ s:Shared,(∀ a o,gl a=some o→s.heap.get? a=some o)→s.heap.NoLimit):∀ n,IHt prog w P gl d₀ A₀ R₀ s₀ m₀ n
  | 0=>fun c κ t T m i hs cs acc J₁ Z₁ s H D _=>(H J₁ Z₁ ⟨D.low,Agree.refl _ _⟩ (Agree.refl _ _)).elim
  | n+1=>step_sound hP hA hlim (sim_sound hP hA hlim n)
end
end
section
open PySem PySem.W PySem.W.X PySem.W.ZRun PySem.Spec PySem.Calls PyProof.Rows
set_option maxHeartbeats 0
local macro_rules | `(tactic| k_head)=>`(tactic| z_head)
open_top zhd for PySem.Challenge.rw_rs0045_01
theorem intsV:∀ {vs:List Value} {ns:List Int},IntsAre vs ns→∃ v:List (Int×Nat),vs=(v.map fun x=>Value.int x.1 x.2)∧v.map (·.1)=ns
  | _,_,.nil=>⟨[],rfl,rfl⟩
  | _,_,.cons n t h=>by
    obtain ⟨v,h1,h2⟩:=intsV h
    exact ⟨(n,t)::v,by rw [h1];rfl,by rw [← h2];rfl⟩
def LawDoes:Prop:=∀ (w:World) (s:Shared) (v:List (Int×Nat)),KT.Holds s.heap 1 0 (zhd.ktop_413 w.params)→s.heap.objs.size=214→s.gens=#[] →
  s.heap.get? 213=some { cls:=.type "list",data:=.seq (v.map fun x=>Value.int x.1 x.2).toArray }→v.length≤63 →
  codeAny (model PySem.Challenge.pw_rs0045_01 w) callerA (.call (.ref 212) ⟨[.ref 213],[]⟩) (fun r s'=>r=.ok (.ret (.bool true))∧(∀ b o,s.heap.get? b=some o→b≠183→b≠209→s'.heap.get? b=some o) ∧
    (∃ m,s'.heap.get? 183=some (tableObj m))∧(∃ m,s'.heap.get? 209=some (tableObj m))∧s'.os=s.os∧s'.gens=s.gens) s
theorem tab183 {w:World}{s:Shared}(ZH:KT.Holds s.heap 1 0 (zhd.ktop_413 w.params)):s.heap.get? 183=some (tableObj #[]):=kt_at ZH (by with_unfolding_all rfl)
theorem tab209 {w:World}{s:Shared}(ZH:KT.Holds s.heap 1 0 (zhd.ktop_413 w.params)):s.heap.get? 209=some (tableObj #[]):=kt_at ZH (by with_unfolding_all rfl)
theorem code183 {w:World}{s:Shared}(ZH:KT.Holds s.heap 1 0 (zhd.ktop_413 w.params)):isCodeTable s.heap 183:=⟨187,_,_,kt_at ZH (by with_unfolding_all rfl),by with_unfolding_all rfl,by with_unfolding_all rfl,by with_unfolding_all rfl⟩
theorem code209 {w:World}{s:Shared}(ZH:KT.Holds s.heap 1 0 (zhd.ktop_413 w.params)):isCodeTable s.heap 209:=⟨211,_,_,kt_at ZH (by with_unfolding_all rfl),by with_unfolding_all rfl,by with_unfolding_all rfl,by with_unfolding_all rfl⟩
theorem old_of {w:World}{s s':Shared}(ZH:KT.Holds s.heap 1 0 (zhd.ktop_413 w.params))(h1:∀ b o,s.heap.get? b=some o→b≠183→b≠209→s'.heap.get? b=some o)(h2:∃ m,s'.heap.get? 183=some (tableObj m))(h3:∃ m,s'.heap.get? 209=some (tableObj m)):OldK s.heap s'.heap:=by
  obtain ⟨m2,h2⟩:=h2
  obtain ⟨m3,h3⟩:=h3
  refine ⟨fun b o e=>?_,fun b o e=>?_⟩
  · by_cases q1:b=183
    · subst q1
      have:=Option.some.inj (e.symm.trans (tab183 ZH))
      subst this
      exact .inr (.inl ⟨code183 ZH,rfl,#[],m2,rfl,by rw [h2];simp [tableObj]⟩)
    · by_cases q2:b=209
      · subst q2
        have:=Option.some.inj (e.symm.trans (tab209 ZH))
        subst this
        exact .inr (.inl ⟨code209 ZH,rfl,#[],m3,rfl,by rw [h3];simp [tableObj]⟩)
      · exact .inl (h1 b o e q1 q2)
  · by_cases q1:b=183
    · subst q1;exact ⟨_,h2⟩
    · by_cases q2:b=209
      · subst q2;exact ⟨_,h3⟩
      · exact ⟨o,h1 b o e q1 q2⟩
theorem holds_of_law (HL:LawDoes):PySem.Challenge.rw_rs0045_01.Holds:=zhd (by
  k_fill
  intro w s₀ s₁ mg mb G y fa o pm cd doc dV kV ho hd hcd hD hmg hg args vals as L hpre hlay hrd hwl hlo
  z_open y L KX ZH ZN ZT
  refine Ground.open G ?_
  intro T B D TE TW
  wrow_args hpre hlay hrd hwl hlo
  obtain ⟨hat,hsz⟩:=script_at L
  have htk:=script_toks L ZT
  rw [ZN] at hat hsz
  subst hat
  x_fa T KX hmg
  all_lens
  rename_i hI hL
  rename_i hls _ _ _ _ _ _ _
  have hol:=script_obj L (by assumption)
  obtain ⟨v,e1,e2⟩:=intsV hI
  have hlen:v.length≤63:=by
    have e3:=congrArg List.length e2
    rw [List.length_map] at e3
    omega
  rw [e1] at hol
  refine wpAny_call (codeAny_mono (HL w s₁ v ZH hsz hg hol hlen) ?_)
  rintro r s' ⟨rfl,k1,k2,k3,k4,k5⟩
  refine ⟨.inl ⟨_,_,[],rfl,fun _=>rfl,ReadsW.bool true,?_,fun _=>⟨List.nodup_nil,fun _ hm=>(nomatch hm)⟩⟩,old_of ZH k1 k2 k3,k4,?_⟩
  · first | rfl | wrow_post
  · rw [k5,hg];exact AllBare.empty)
end
section
open PySem PySem.W PySem.W.X PySem.Spec PySem.Calls
noncomputable def gl (P:Params):Addr→Option Obj:=fun a=>match Nat.beq a 183 with
  | true=>none
  | false=>match Nat.beq a 209 with
    | true=>none
    | false=>match Nat.blt a 213 with
      | true=>(zhd.ktop_413 P).get a
      | false=>none
noncomputable def rowsP (P:Params)(b1 b2:Bool):Params:={ P with followText:=fun r=>match r == "special-get-raises" with | true=>b1 | false=>match r == "comprehension-iter-twice" with | true=>b2 | false=>P.followText r }
noncomputable abbrev prg:Program:=PySem.Challenge.pw_rs0045_01
noncomputable def T0 (os:List Obj):BT:=match insAll .nil 0 os with
  | some T=>T
  | none=>.nil
noncomputable abbrev sLineno:Str:=⟨#[108,105,110,101,110,111]⟩
noncomputable abbrev sInstream:Str:=⟨#[105,110,115,116,114,101,97,109]⟩
noncomputable abbrev sWhitespace:Str:=⟨#[119,104,105,116,101,115,112,97,99,101]⟩
noncomputable abbrev sPushback:Str:=⟨#[112,117,115,104,98,97,99,107]⟩
noncomputable abbrev sWs:Str:=⟨#[10,9,13,32]⟩
noncomputable def lexO (d:Nat):Obj:={ cls:=.ref 160,dict:=some d,data:=.plain }
noncomputable def lexD (hf:Nat→Int)(tf:Nat→Nat)(ln ins:Value)(pb:Nat)(more:List DictEntry)(e:Nat):Obj :=
  { cls:=.type "dict",data:=.dict (⟨hf 0,.str sLineno (tf 0),ln⟩::⟨hf 1,.str sInstream (tf 1),ins⟩::⟨hf 2,.str sWhitespace (tf 2),.str sWs (tf 3)⟩::⟨hf 3,.str sPushback (tf 4),.ref pb⟩::more).toArray e }
noncomputable def lst (vs:List Value)(e:Nat):Obj:={ cls:=.type "list",data:=.seq vs.toArray e }
def Con (w:World)(d:Nat)(c:Code)(as:List Addr)(pre:List Obj)(Post:Result→List Obj→List (Addr×Obj)→Prop):Prop :=
  ∀ (A:Around) (s:Shared),Small A d→(∀ a o,gl w.params a=some o→s.heap.get? a=some o)→Has s.heap as pre→as.Nodup→(∀ a∈as,gl w.params a=none∧183≤a) →
    codeAny (model prg w) A c (fun r s'=>∃ os nw,Post r os nw∧Has s'.heap as os∧(∀ p∈nw,s'.heap.get? p.1=some p.2∧s.heap.objs.size≤p.1)∧(nw.map (·.1)).Nodup∧After (gl w.params) as s s') s
theorem Con.mono {w:World}{d:Nat}{c:Code}{as:List Addr}{pre:List Obj}{Post Post':Result→List Obj→List (Addr×Obj)→Prop}(h:Con w d c as pre Post)(hp:∀ r os nw,Post r os nw→Post' r os nw):Con w d c as pre Post' :=
  fun A s h1 h2 h3 h4 h5=>codeAny_mono (h A s h1 h2 h3 h4 h5) fun r s' ⟨os,nw,x,y⟩=>⟨os,nw,hp _ _ _ x,y⟩
theorem Con.le {w:World}{d d':Nat}{c:Code}{as:List Addr}{pre:List Obj}{Post:Result→List Obj→List (Addr×Obj)→Prop}(h:Con w d c as pre Post)(hd:d'≤d):Con w d' c as pre Post :=
  fun A s h1=>h A s ⟨h1.1,Nat.le_trans h1.2.1 hd,Nat.le_trans h1.2.2 (Nat.mul_le_mul_left _ hd)⟩
theorem getD_big {l:List Nat}{j:Nat}(h:l.length≤j):l.getD j 0=0:=by rw [List.getD_eq_getElem?_getD,List.getElem?_eq_none h];rfl
theorem nodup_inj {α:Type}{l:List α}(hn:l.Nodup){i j:Nat}{hi:i<l.length}{hj:j<l.length}(e:l[i]=l[j]):i=j:=by
  have p:=List.pairwise_iff_getElem.mp hn
  rcases Nat.lt_trichotomy i j with h | h | h
  · exact absurd e (p i j hi hj h)
  · exact h
  · exact absurd e.symm (p j i hj hi h)
noncomputable def ext (f:Nu)(n:Nat)(l:List Nat):Nu:=fun j=>if j<n then f j else l.getD (j-n) 0
noncomputable def nuOf (as:List Addr):Nu:=fun j=>as.getD j 183
theorem gl_182 (P:Params):(gl P 182).isSome=true:=by kernel_rfl
theorem gl_big {P:Params}{s:Shared}(hg:∀ a o,gl P a=some o→s.heap.get? a=some o):183≤s.heap.objs.size:=by
  have:=gl_182 P
  cases q:gl P 182 with
  | none=>rw [q] at this;cases this
  | some o=>have:182<s.heap.objs.size:=Heap.lt_size (hg _ _ q);omega
theorem T0_get {os:List Obj}{i:Nat}{o:Obj}(e:(T0 os).get i=some o):os[i]?=some o:=by
  unfold T0 at e
  cases q:insAll .nil 0 os with
  | none=>rw [q] at e;cases e
  | some T =>
    rw [q] at e
    rcases insAll_get q e with ⟨j,h1,h2⟩ | ⟨h1,_⟩
    · rw [Nat.zero_add] at h1;subst h1;exact h2
    · cases h1
theorem rep_start {P:Params}{as:List Addr}{pre:List Obj}{s:Shared}(hg:∀ a o,gl P a=some o→s.heap.get? a=some o)(hp:Has s.heap as pre)(hn:as.Nodup)(ho:∀ a∈as,gl P a=none∧183≤a) :
    Rep (gl P) s as.length (nuOf as) (T0 pre) as.length s:=by
  have hat:∀ i,(hi:i<as.length)→nuOf as i=as[i]:=fun i hi=>by
    unfold nuOf
    rw [List.getD_eq_getElem?_getD,List.getElem?_eq_getElem hi];rfl
  refine ⟨fun i o e=>?_,fun i j hi hj e=>?_,fun i hi=>?_,fun i hi=>?_,fun i h1 h2=>absurd h1 (by omega),Nat.le_refl _,hg,fun b o e _=>e,Nat.le_refl _,rfl,rfl,rfl,Nat.le_refl _,fun j=>?_,gl_big hg⟩
  · have e:=T0_get e
    have hi:i<as.length:=by rw [hp.len];exact (List.getElem?_eq_some_iff.mp e).1
    obtain ⟨o',h1,h2⟩:=hp.at (List.getElem?_eq_getElem hi)
    rw [e] at h1;cases h1
    exact ⟨hi,by rw [hat i hi];exact h2⟩
  · rw [hat i hi,hat j hj] at e
    exact nodup_inj hn e
  · obtain ⟨o',_,h2⟩:=hp.at (List.getElem?_eq_getElem hi)
    rw [hat i hi];exact Heap.lt_size h2
  · rw [hat i hi];exact (ho _ (List.getElem_mem _)).1
  · by_cases h:j<as.length
    · rw [hat j h];exact (ho _ (List.getElem_mem _)).2
    · unfold nuOf
      rw [List.getD_eq_getElem?_getD,List.getElem?_eq_none (by omega)];exact Nat.le_refl _
noncomputable def es2 (P:Params):Array DictEntry:=match gl P 2 with
  | some ⟨_,_,.dict es _,_⟩=>es
  | _=>#[]
theorem es2_at (P:Params):(gl P 2).map (·.data)=some (.dict (es2 P) 9):=by kernel_rfl
noncomputable def keyIsStr (e:DictEntry):Bool:=match e.key with
  | .str _ _=>true
  | _=>false
theorem es2_keys (P:Params):(es2 P).toList.all keyIsStr=true:=by kernel_rfl
theorem es2_none (P:Params):nsFind (es2 P) ⟨#[115,121,115,46,114,101,99,117,114,115,105,111,110,108,105,109,105,116]⟩=none:=by kernel_rfl
theorem lim_name:(Str.ofString "sys.recursionlimit")=⟨#[115,121,115,46,114,101,99,117,114,115,105,111,110,108,105,109,105,116]⟩:=by decide +kernel
theorem noLimit_of {w:World}{s:Shared}(hg:∀ a o,gl w.params a=some o→s.heap.get? a=some o):s.heap.NoLimit:=by
  have h:=es2_at w.params
  cases q:gl w.params 2 with
  | none=>rw [q] at h;cases h
  | some o =>
    rw [q] at h
    refine ⟨fun x=>nsFind (es2 w.params) x,⟨o,es2 w.params,9,hg 2 o q,Option.some.inj h,fun e he=>?_,fun _=>rfl⟩,?_⟩
    · have:=List.all_eq_true.mp (es2_keys w.params) e (Array.mem_toList_iff.mpr he)
      unfold keyIsStr at this
      split at this
      · rename_i n t hk;exact ⟨n,t,hk⟩
      · cases this
    · show nsFind (es2 w.params) (Str.ofString "sys.recursionlimit")=none
      rw [lim_name];exact es2_none _
theorem wp_of_sim {w:World}{P:Params}(hP:w.params=P){d n:Nat}{c:Code}{t:Sem Fin}{as:List Addr}{pre:List Obj}{hs:List Nat}{cs:List Ev}{Post:Result→List Obj→List (Addr×Obj)→Prop}
    (V:ValidAll prg w (gl w.params) cs)
    (H:∀ J Z,(∀ j,183≤J j)→(∀ j,j<as.length→J j=nuOf as j)→Good (sim prg P (gl w.params) d J Z n c [] t (T0 pre) as.length 0 hs cs []) (fun r T m _=>∃ (os:List Obj) (ns:List Nat) (no:List Obj),
      Post r os ((ns.map J).zip no)∧(List.range as.length).map T.get=os.map some∧ns.map T.get=no.map some∧ns.Nodup∧∀ j∈ns,as.length≤j)) {A:Around} {s:Shared} (sA:Small A d) (hg:∀ a o,gl w.params a=some o→s.heap.get? a=some o) (hp:Has s.heap as pre) (hn:as.Nodup) (ho:∀ a∈as,gl w.params a=none∧183≤a)
    {R:Result→Shared→Prop} (hR:∀ r s',(∃ os nw,Post r os nw∧Has s'.heap as os∧(∀ p∈nw,s'.heap.get? p.1=some p.2∧s.heap.objs.size≤p.1)∧(nw.map (·.1)).Nodup∧After (gl w.params) as s s')→R r s') :
    wpOwn (model prg w) A c t (postC prg w A R) (postE R) s:=by
  have R:=rep_start hg hp hn ho
  refine sim_sound (s₀:=s) (m₀:=as.length) hP sA (fun s h=>noLimit_of h) n c [] _ _ _ 0 hs cs [] (nuOf as) (fun _=>0) s (fun J Z h1 h2=>?_) R V
  have h:=H J Z h1.1 h1.2
  replace h1:=h1.2
  dsimp only
  revert h
  cases sim prg P (gl w.params) d J Z n c [] t (T0 pre) as.length 0 hs cs [] with
  | bad=>exact fun h=>h
  | done r T m i acc =>
    rintro ⟨ha,os,ns,no,hpost,hos,hns,hnd,hge⟩
    refine ⟨ha,fun s' D=>hR _ _ ⟨os,(ns.map J).zip no,hpost,?_,?_,?_,?_⟩⟩
    · have e:as=(List.range as.length).map J:=by
        refine List.ext_getElem? fun j=>?_
        rw [List.getElem?_map]
        by_cases hj:j<as.length
        · rw [List.getElem?_range hj,List.getElem?_eq_getElem hj,Option.map_some,h1 j hj]
          unfold nuOf
          rw [List.getD_eq_getElem?_getD,List.getElem?_eq_getElem hj];rfl
        · rw [List.getElem?_eq_none (by omega),List.getElem?_eq_none (by rw [List.length_range];omega)];rfl
      show as.map _=_
      rw [e,List.map_map,← hos]
      refine List.map_congr_left fun j hj=>?_
      have hj':=List.mem_range.mp hj
      have:((List.range as.length).map T.get)[j]?=(os.map some)[j]?:=by rw [hos]
      rw [List.getElem?_map,List.getElem?_range hj',List.getElem?_map,Option.map_some] at this
      cases q:os[j]? with
      | none=>rw [q] at this;cases this
      | some o=>rw [q] at this;rw [Option.some.inj this];exact (D.own j o (Option.some.inj this)).2
    · intro p hp
      obtain ⟨j,hj⟩:=List.mem_iff_getElem?.mp hp
      rw [List.getElem?_zip_eq_some] at hj
      obtain ⟨h3,h4⟩:=hj
      rw [List.getElem?_map] at h3
      cases q:ns[j]? with
      | none=>rw [q] at h3;cases h3
      | some x =>
        rw [q] at h3
        have hx:T.get x=some p.2:=by
          have:(ns.map T.get)[j]?=(no.map some)[j]?:=by rw [hns]
          rw [List.getElem?_map,q,List.getElem?_map,h4] at this
          exact Option.some.inj this
        obtain ⟨h5,h6⟩:=D.own x p.2 hx
        have e1:J x=p.1:=Option.some.inj h3
        rw [← e1]
        exact ⟨h6,D.new x (hge x (List.mem_of_getElem? q)) h5⟩
    · have hl:ns.length=no.length:=by have:=congrArg List.length hns;simpa using this
      rw [List.map_fst_zip (by rw [List.length_map];omega)]
      refine nodup_map_on (fun a ha b hb z=>?_) hnd
      have lt:∀ x∈ns,x<m:=fun x hx=>by
        obtain ⟨j,q⟩:=List.mem_iff_getElem?.mp hx
        have:(ns.map T.get)[j]?=(no.map some)[j]?:=by rw [hns]
        rw [List.getElem?_map,q,List.getElem?_map] at this
        cases q2:no[j]? with
        | none=>rw [q2] at this;cases this
        | some o=>rw [q2] at this;exact (D.own x o (Option.some.inj this)).1
      exact D.inj a b (lt a ha) (lt b hb) z
    · refine ⟨D.glob,fun b o e hb=>D.keep b o e fun i hi z=>hb ?_,D.size,D.gens,D.drawn,D.os,D.toks⟩
      rw [h1 i hi] at z
      unfold nuOf at z
      rw [List.getD_eq_getElem?_getD,List.getElem?_eq_getElem hi] at z
      rw [← show as[i]=b from z]
      exact List.getElem_mem _
theorem con_builtin {w:World}{d:Nat}{id:String}{args:Args}{b:Builtin}{as:List Addr}{pre:List Obj}{Post:Result→List Obj→List (Addr×Obj)→Prop}(hp:plainId id=true)(hb:entryFor table id=some b)
    (h:∀ (A:Around) (s:Shared) (R:Result→Shared→Prop),Small A d→(∀ a o,gl w.params a=some o→s.heap.get? a=some o)→Has s.heap as pre→as.Nodup→(∀ a∈as,gl w.params a=none∧183≤a) →
      (∀ r s',(∃ os nw,Post r os nw∧Has s'.heap as os∧(∀ p∈nw,s'.heap.get? p.1=some p.2∧s.heap.objs.size≤p.1)∧(nw.map (·.1)).Nodup∧After (gl w.params) as s s')→R r s') →
      wpAny (model prg w) A.in1 (b args) (fun fin s'=>match fin with | .done f=>R (.ok f) s' | .again c'=>c'.quiet=true∧codeAny (model prg w) A c' R s') (fun e s'=>R (.error e) s') s) :
    Con w d (.builtin id args) as pre Post:=by
  intro A s sA hg hpre hnd hout
  refine codeAny_of_tree ?_
  rw [Around.under_plainId hp]
  show wpAny _ _ (match entryFor table id with | some b=>b args | none=>unsupported ((withoutEnding? id "#data").getD id)) _ _ s
  rw [hb]
  exact h A s _ sA hg hpre hnd hout fun _ _ x=>x
theorem After.same {gl:Addr→Option Obj}{as:List Addr}{s:Shared}(hg:∀ a o,gl a=some o→s.heap.get? a=some o){t:Nat}(ht:s.toks≤t):After gl as s { s with toks:=t } :=
  ⟨hg,fun _ _ e _=>e,Nat.le_refl _,rfl,rfl,rfl,ht⟩
theorem After.same' {gl:Addr→Option Obj}{as:List Addr}{s:Shared}(hg:∀ a o,gl a=some o→s.heap.get? a=some o):After gl as s s :=
  ⟨hg,fun _ _ e _=>e,Nat.le_refl _,rfl,rfl,rfl,Nat.le_refl _⟩
theorem con_val {w:World}{d:Nat}{id:String}{args:Args}{b:Builtin}{v:Value}(hp:plainId id=true)(hb:entryFor table id=some b)(g:Gives (b args) (.val v)) :
    Con w d (.builtin id args) [] [] (fun r os nw=>r=.ok (.ret v)∧os=[]∧nw=[]) :=
  con_builtin hp hb fun A s R sA hg hpre hnd hout hR=>g prg w A R s (hR _ _ ⟨[],[],⟨rfl,rfl,rfl⟩,rfl,(fun _ h=>by cases h),List.nodup_nil,After.same' hg⟩)
theorem con_str {w:World}{d:Nat}{id:String}{args:Args}{b:Builtin}{x:Str}(hp:plainId id=true)(hb:entryFor table id=some b)(g:Gives (b args) (.str x))(hx:x.length≤sizeLine) :
    Con w d (.builtin id args) [] [] (fun r os nw=>(∃ t,r=.ok (.ret (.str x t)))∧os=[]∧nw=[]) :=
  con_builtin hp hb fun A s R sA hg hpre hnd hout hR=>g prg w A R s ⟨hx,hR _ _ ⟨[],[],⟨⟨_,rfl⟩,rfl,rfl⟩,rfl,(fun _ h=>by cases h),List.nodup_nil,After.same hg (Nat.le_succ _)⟩⟩
theorem con_int {w:World}{d:Nat}{id:String}{args:Args}{b:Builtin}{x:Int}(hp:plainId id=true)(hb:entryFor table id=some b)(g:Gives (b args) (.int x)) :
    Con w d (.builtin id args) [] [] (fun r os nw=>(∃ t,r=.ok (.ret (.int x t)))∧os=[]∧nw=[]) :=
  con_builtin hp hb fun A s R sA hg hpre hnd hout hR=>g prg w A R s (hR _ _ ⟨[],[],⟨⟨_,rfl⟩,rfl,rfl⟩,rfl,(fun _ h=>by cases h),List.nodup_nil,After.same hg (Nat.le_succ _)⟩)
theorem con_upd {w:World}{d:Nat}{id:String}{args:Args}{b:Builtin}{a:Addr}{o o':Obj}{v:Value}{f:Obj→Obj}(hp:plainId id=true)(hb:entryFor table id=some b)
    (g:Meets (b args) (fun _ R s=>s.heap.get? a=some o∧R (.ok (.ret v)) { s with heap:=s.heap.update a f,toks:=s.toks })) (hf:f o=o') (hfr:o'.isFreed=false) :
    Con w d (.builtin id args) [a] [o] (fun r os nw=>r=.ok (.ret v)∧os=[o']∧nw=[]):=by
  refine con_builtin hp hb fun A s R sA hg hpre hnd hout hR=>?_
  have ho:s.heap.get? a=some o:=by
    have:[s.heap.get? a]=[some o]:=hpre
    injection this
  refine g prg w A R s ⟨ho,hR _ _ ⟨[o'],[],⟨rfl,rfl,rfl⟩,?_,(fun _ h=>by cases h),List.nodup_nil,?_⟩⟩
  · have hs:Heap.SameBut a s.heap (s.heap.update a f):=Heap.SameBut.update ..
    have ge:(s.heap.update a f).get? a=some (f o):=by first | exact Heap.get?_update_self f ho (by rw [hf];exact hfr) | exact Heap.get?_update_self _ ho (by rw [hf];exact hfr)
    show [(s.heap.update a f).get? a]=[some o']
    rw [ge,hf]
  · have hs:Heap.SameBut a s.heap (s.heap.update a f):=Heap.SameBut.update ..
    refine ⟨fun b' o'' e=>?_,fun b' o'' e hn=>?_,?_,rfl,rfl,rfl,Nat.le_refl _⟩
    · refine (hs.2 b' fun z=>?_).trans (hg b' o'' e)
      have:=(hout a mS).1
      rw [← z,e] at this;cases this
    · exact (hs.2 b' fun z=>hn (by rw [z];exact List.mem_cons_self ..)).trans e
    · show _≤(s.heap.update a f).objs.size
      rw [hs.1];exact Nat.le_refl _
theorem mapSeq_lst {vs:List Value}{e:Nat}{f:Array Value→Array Value}{ws:List Value}(hf:f vs.toArray=ws.toArray)(hl:ws.length≠vs.length):Obj.mapSeq f (lst vs e)=lst ws (e+1):=by
  unfold lst Obj.mapSeq
  simp only [hf,List.size_toArray]
  have:(ws.length==vs.length)=false:=by simpa using hl
  rw [this];rfl
theorem con_append {w:World}{d:Nat}{a:Addr}{vs:List Value}{e:Nat}{x:Value}(hl:vs.length≤sizeLine) :
    Con w d (.builtin "list.append" ⟨[.ref a,x],[]⟩) [a] [lst vs e] (fun r os nw=>r=.ok (.ret .none)∧os=[lst (vs++[x]) (e+1)]∧nw=[]) :=
  con_upd (by decide +kernel) (entryFor_of_tree (by kernel_rfl)) (list_append a vs.toArray e x (by simpa using hl)) (mapSeq_lst (by simp) (by simp)) rfl
end
section
open PySem PySem.W PySem.W.X PySem.Spec PySem.Calls
set_option maxHeartbeats 0
theorem rows_eq (P:Params):P=rowsP P (P.followText "special-get-raises") (P.followText "comprehension-iter-twice"):=by
  unfold rowsP
  obtain ⟨⟩:=P
  simp only [Params.mk.injEq,true_and,and_true]
  funext r
  split
  · rename_i h;rw [eq_of_beq h]
  · split
    · rename_i h;rw [eq_of_beq h]
    · rfl
theorem con_pop0 {w:World}{d:Nat}{a:Addr}{v:Value}{vs:List Value}{e u:Nat}(hl:vs.length<sizeLine) :
    Con w d (.builtin "list.pop" ⟨[.ref a,.int 0 u],[]⟩) [a] [lst (v::vs) e] (fun r os nw=>r=.ok (.ret v)∧os=[lst vs (e+1)]∧nw=[]) :=
  con_upd (by decide +kernel) (entryFor_of_tree (by kernel_rfl)) (MeetsSeq.list_pop_at a (v::vs).toArray e 0 u 0 v (by decide) (by simp [seqIndex?]) (by simp) (by simp;omega))
    (mapSeq_lst (by simp [Array.eraseIdxIfInBounds]) (by simp)) rfl
theorem ret_mono {w:World}{A A':Around}{t:Sem Fin}{Q E:Value→Shared→Prop}{R:Result→Shared→Prop}{s:Shared}(h:wpAny (model prg w) A t (fun fin s'=>∃ r,fin=.done (.ret r)∧Q r s') (fun _ _=>False) s)(hq:∀ v s',Q v s'→R (.ok (.ret v)) s') :
    wpAny (model prg w) A t (fun fin s'=>match fin with | .done f=>R (.ok f) s' | .again c'=>c'.quiet=true∧codeAny (model prg w) A' c' R s') E s :=
  wpAny_mono h (fun fin s' ⟨r,e,q⟩=>by subst e;exact hq r s' q) fun _ _ x=>x.elim
theorem isList_lst {h:Heap}{a:Addr}{vs:List Value}{e:Nat}(ho:h.get? a=some (lst vs e)):h.IsList a vs.toArray:=⟨_,ho,rfl,e,rfl⟩
theorem con_len_list {w:World}{d:Nat}{a:Addr}{vs:List Value}{e:Nat}(hl:vs.length≤sizeLine) :
    Con w d (.builtin "len" ⟨[.ref a],[]⟩) [a] [lst vs e] (fun r os nw=>(∃ t,r=.ok (.ret (.int vs.length t)))∧os=[lst vs e]∧nw=[]):=by
  refine con_builtin (b:=Builtin.«len») (by decide +kernel) (entryFor_of_tree (by kernel_rfl)) fun A s R sA hg hpre hnd hout hR=>?_
  have ho:s.heap.get? a=some (lst vs e):=by
    have:[s.heap.get? a]=[some (lst vs e)]:=hpre
    injection this
  refine ret_mono (wpAny_len_body_list (isList_lst ho) (by rw [List.size_toArray];rw [sizeLine_eq] at hl;omega) (Q:=fun v s'=>v=.int vs.length (s.toks+1)∧s'={ s with toks:=s.toks+1+1 }) ⟨by simp,rfl⟩) ?_
  rintro v s' ⟨rfl,rfl⟩
  exact hR _ _ ⟨[lst vs e],[],⟨⟨_,rfl⟩,rfl,rfl⟩,hpre,(fun _ h=>by cases h),List.nodup_nil,After.same hg (by omega)⟩
theorem con_len_str {w:World}{d:Nat}{x:Str}{t:Nat}(hl:x.length≤sizeLine) :
    Con w d (.builtin "len" ⟨[.str x t],[]⟩) [] [] (fun r os nw=>(∃ t,r=.ok (.ret (.int x.length t)))∧os=[]∧nw=[]):=by
  refine con_builtin (b:=Builtin.«len») (by decide +kernel) (entryFor_of_tree (by kernel_rfl)) fun A s R sA hg hpre hnd hout hR=>?_
  refine ret_mono (wpAny_len_body (typeIs_str _ _ _) PyProof.Rows.slot_str_len PyProof.Rows.entry_str_len (PyProof.Rows.args_str_len _) (gives_str_len x t) (by omega) (by rw [sizeLine_eq] at hl;omega) (Q:=fun v s'=>v=.int x.length (s.toks+1)∧s'={ s with toks:=s.toks+1+1 }) ⟨rfl,rfl⟩) ?_
  rintro v s' ⟨rfl,rfl⟩
  exact hR _ _ ⟨[],[],⟨⟨_,rfl⟩,rfl,rfl⟩,hpre,(fun _ h=>by cases h),List.nodup_nil,After.same hg (by omega)⟩
noncomputable abbrev LamP:=Arguments×FuncBody×Scope
noncomputable abbrev sLambda:Str:=⟨#[60,108,97,109,98,100,97,62]⟩
noncomputable abbrev sLeft:Str:=⟨#[108,101,102,116]⟩
noncomputable abbrev sRead:Str:=⟨#[114,101,97,100]⟩
noncomputable abbrev sLawMod:Str:=⟨#[108,97,119,95,114,115,48,48,52,53,95,48,49]⟩
noncomputable abbrev sLamQ:Str:=⟨#[95,108,97,119,95,115,116,114,101,97,109,46,60,108,111,99,97,108,115,62,46,60,108,97,109,98,100,97,62]⟩
noncomputable def lamO (p:LamP)(cell co ct:Nat):Obj:={ cls:=.type "function",data:=.func { name:=sLambda,qualname:=sLamQ,params:=p.1,body:=p.2.1,scope:=p.2.2,globals:=3,closure:=[(sLeft,cell)],defaults:=.none,kwdefaults:=.none,pyModule:=.str sLawMod 517,code:=.ref co,closureTuple:=.ref ct,builtins:=0 } }
noncomputable def codO (v0:Value)(q:Str)(tq:Nat)(rest:List Value):Obj:={ cls:=.type "code",data:=.fields (v0::.str q tq::rest).toArray }
noncomputable def cellO (v:Value):Obj:={ cls:=.type "cell",data:=.cell (some v) }
theorem con_str_eq {w:World}{d:Nat}{x y:Str}{t u:Nat}{b:Bool}(hb:(x.cps.toList==y.cps.toList)=b) :
    Con w d (.builtin "str.__eq__" ⟨[.str x t,.str y u],[]⟩) [] [] (fun r os nw=>r=.ok (.ret (.bool b))∧os=[]∧nw=[]) :=
  con_val (by decide +kernel) (entryFor_of_tree (by kernel_rfl)) (hb▸gives_str_eq x y t u)
theorem con_str_contains {w:World}{d:Nat}{x y:Str}{t u:Nat}{b:Bool}(hb:(!(Builtin.Str.occurrences x y 0 x.length 1).isEmpty)=b) :
    Con w d (.builtin "str.__contains__" ⟨[.str x t,.str y u],[]⟩) [] [] (fun r os nw=>r=.ok (.ret (.bool b))∧os=[]∧nw=[]) :=
  con_val (by decide +kernel) (entryFor_of_tree (by kernel_rfl)) (hb▸gives_str_contains x y t u)
theorem con_str_add {w:World}{d:Nat}{x y:Str}{t u:Nat}(hx:x.length≠0)(hy:y.length≠0)(hl:(x++y).length≤sizeLine) :
    Con w d (.builtin "str.__add__" ⟨[.str x t,.str y u],[]⟩) [] [] (fun r os nw=>(∃ t,r=.ok (.ret (.str (x++y) t)))∧os=[]∧nw=[]) :=
  con_str (by decide +kernel) (entryFor_of_tree (by kernel_rfl)) (by
    have h:=gives_str_add x y t u
    have h1:(x.length==0)=false:=by simpa using hx
    have h2:(y.length==0)=false:=by simpa using hy
    rw [h1,h2] at h
    exact h) hl
theorem con_str_add0 {w:World}{d:Nat}{x y:Str}{t u:Nat}(hx:x.length=0) :
    Con w d (.builtin "str.__add__" ⟨[.str x t,.str y u],[]⟩) [] [] (fun r os nw=>r=.ok (.ret (.str y u))∧os=[]∧nw=[]) :=
  con_val (by decide +kernel) (entryFor_of_tree (by kernel_rfl)) (by
    have h:=gives_str_add x y t u
    have h1:(x.length==0)=true:=by simpa using hx
    rw [h1] at h
    exact h)
end
section
open PySem PySem.W PySem.W.X PySem.Spec PySem.Calls
structure Spec where
  n0:Nat
  k:Nat
  nt:Nat
  d:Nat
  code:Nu→Code
  pre:Nu→List Obj
  res:Nu→Nu→Result
  post:Nu→Nu→List Obj
  new:Nu→Nu→List Obj
noncomputable def rng (n0:Nat)(J:Nu):List Addr:=(List.range n0).map J
structure Ends (w:World)(X:Spec)(J:Nu)(s:Shared)(r:Result)(s':Shared)(μ θ:Nu):Prop where
  agree:Agree X.n0 μ J
  nuZ:∀ j,X.n0+X.k≤j→μ j=0
  tauZ:∀ j,X.nt≤j→θ j=0
  res:r=X.res μ θ
  post:Has s'.heap (rng X.n0 J) (X.post μ θ)
  new:Has s'.heap ((List.range X.k).map fun j=>μ (X.n0+j)) (X.new μ θ)
  fresh:∀ j,j<X.k→s.heap.objs.size≤μ (X.n0+j)
  inj:∀ j j',j<X.k→j'<X.k→μ (X.n0+j)=μ (X.n0+j')→j=j'
  after:After (gl w.params) (rng X.n0 J) s s'
def Spec.Ok (w:World)(X:Spec):Prop :=
  ∀ (J:Nu) (A:Around) (s:Shared),Small A X.d→(∀ a o,gl w.params a=some o→s.heap.get? a=some o)→Has s.heap (rng X.n0 J) (X.pre (trunc X.n0 J))→(rng X.n0 J).Nodup →
    (∀ a∈rng X.n0 J,gl w.params a=none∧183≤a)→codeAny (model prg w) A (X.code (trunc X.n0 J)) (fun r s'=>∃ μ θ,Ends w X J s r s' μ θ) s
noncomputable def nth:List Nat→Nat→Option Nat
  | [],_=>none
  | x::_,0=>some x
  | _::l,n+1=>nth l n
theorem nth_eq:∀ (l:List Nat) (j:Nat),nth l j=l[j]?
  | [],_=>rfl
  | _::_,0=>rfl
  | _::l,n+1=>by rw [nth,nth_eq l n];rfl
noncomputable def sel (l:List Nat)(f:Nu):Nu:=fun j=>match nth l j with
  | some x=>f x
  | none=>0
theorem sel_lt {l:List Nat}{f:Nu}{j:Nat}(h:j<l.length):sel l f j=f l[j]:=by unfold sel;rw [nth_eq,List.getElem?_eq_getElem h]
theorem sel_ge {l:List Nat}{f:Nu}{j:Nat}(h:l.length≤j):sel l f j=0:=by unfold sel;rw [nth_eq,List.getElem?_eq_none h]
noncomputable def both (n0:Nat)(f g:Nu):Nu:=fun j=>match Nat.blt j n0 with
  | true=>f j
  | false=>g (j-n0)
theorem both_lt {n0 j:Nat}{f g:Nu}(h:j<n0):both n0 f g j=f j:=by
  unfold both
  rw [show Nat.blt j n0=true from Nat.ble_eq_true_of_le h]
theorem both_ge {n0 j:Nat}{f g:Nu}(h:n0≤j):both n0 f g j=g (j-n0):=by
  unfold both
  cases q:Nat.blt j n0 with
  | false=>rfl
  | true=>exact absurd (Nat.le_of_ble_eq_true q) (by omega)
noncomputable def shift (m:Nat)(f:Nu):Nu:=fun j=>f (m+j)
noncomputable def zz:Nu:=fun _=>0
noncomputable def evC (X:Nu→Nu→Spec)(n0 k nt m i:Nat)(js:List Nat)(J Z:Nu):Ctr :=
  (fun (Y:Spec) (ρ σ:Nu)=>{ code:=Y.code (trunc n0 ρ),idx:=js,pre:=Y.pre (trunc n0 ρ),res:=Y.res ρ σ,post:=Y.post ρ σ,new:=Y.new ρ σ })
    (X (trunc m J) (trunc i Z)) (both n0 (sel js J) (trunc k (shift m J))) (trunc nt (shift i Z))
noncomputable def evX (X:Nu→Nu→Spec)(js:List Nat)(s m i:Nat):Ev :=
  { skip:=s,m:=m,i:=i,k:=(X zz zz).k,nt:=(X zz zz).nt,d:=(X zz zz).d,C:=evC X (X zz zz).n0 (X zz zz).k (X zz zz).nt m i js }
theorem rng_len (n:Nat)(J:Nu):(rng n J).length=n:=by unfold rng;rw [List.length_map,List.length_range]
theorem rng_congr {n:Nat}{f g:Nu}(h:Agree n f g):rng n f=rng n g:=List.map_congr_left fun j hj=>h j (List.mem_range.mp hj)
theorem rng_sel (js:List Nat)(J:Nu){n0:Nat}(h:js.length=n0)(g:Nu):rng n0 (both n0 (sel js J) g)=js.map J:=by
  refine List.ext_getElem? fun j=>?_
  unfold rng
  rw [List.getElem?_map,List.getElem?_map]
  by_cases hj:j<n0
  · rw [List.getElem?_range hj,List.getElem?_eq_getElem (by omega),Option.map_some,Option.map_some,both_lt hj,sel_lt (by omega)]
  · rw [List.getElem?_eq_none (by rw [List.length_range];omega),List.getElem?_eq_none (by omega)];rfl
theorem valid_evX {w:World}{X:Nu→Nu→Spec}{js:List Nat}{s m i:Nat}(h:∀ J Z,(X J Z).Ok w)
    (sh:∀ J Z,(X J Z).n0=(X zz zz).n0∧(X J Z).k=(X zz zz).k∧(X J Z).nt=(X zz zz).nt∧(X J Z).d=(X zz zz).d)
    (hl:js.length=(X zz zz).n0) (hj:∀ j∈js,j<m):ValidC prg w (gl w.params) (evX X js s m i):=by
  intro J Z A st sA hg hpre hnd hout
  obtain ⟨e1,e2,e3,e4⟩:=sh (trunc m J) (trunc i Z)
  have hO:=h (trunc m J) (trunc i Z) (both (X zz zz).n0 (sel js J) (trunc (X zz zz).k (shift m J))) A st (by rw [e4];exact sA) hg
  rw [e1,rng_sel js J hl] at hO
  refine codeAny_mono (hO hpre hnd hout) ?_
  rintro r s' ⟨μ,θ,E⟩
  have E1:=E.agree;have E2:=E.nuZ;have E3:=E.tauZ
  have E5:=E.post;have E6:=E.new;have E7:=E.fresh;have E8:=E.inj;have E9:=E.after
  rw [e1] at E1 E2 E5 E6 E7 E8 E9
  rw [e2] at E2 E6 E7 E8
  rw [e3] at E3
  rw [rng_sel js J hl] at E5 E9
  refine ⟨both m J (shift (X zz zz).n0 μ),both i Z θ,fun j hj'=>both_lt hj',fun j hj'=>both_lt hj',fun j hj'=>?_,fun j hj'=>?_,?_⟩
  · have hj':m+(X zz zz).k≤j:=hj'
    rw [both_ge (by omega:m≤j)]
    exact E2 _ (by show _≤(X zz zz).n0+_;omega)
  · have hj':i+(X zz zz).nt≤j:=hj'
    rw [both_ge (by omega:i≤j)]
    exact E3 _ (by omega)
  · have t1:trunc m (both m J (shift (X zz zz).n0 μ))=trunc m J:=trunc_eq fun j hj'=>both_lt hj'
    have t2:trunc i (both i Z θ)=trunc i Z:=trunc_eq fun j hj'=>both_lt hj'
    have t3:both (X zz zz).n0 (sel js (both m J (shift (X zz zz).n0 μ))) (trunc (X zz zz).k (shift m (both m J (shift (X zz zz).n0 μ))))=μ:=by
      funext j
      by_cases hj':j<(X zz zz).n0
      · rw [both_lt hj',sel_lt (by omega),both_lt (hj _ (List.getElem_mem _))]
        have:=E1 j hj'
        rw [both_lt hj',sel_lt (by omega)] at this
        exact this.symm
      · rw [both_ge (by omega)]
        by_cases hk:j-(X zz zz).n0<(X zz zz).k
        · rw [trunc_lt _ hk]
          show both m J _ (m+_)=_
          rw [both_ge (by omega)]
          show μ _=μ j
          congr 1;omega
        · rw [trunc_ge _ (by omega)]
          exact (E2 j (by omega)).symm
    have t4:trunc (X zz zz).nt (shift i (both i Z θ))=θ:=by
      funext j
      by_cases hj':j<(X zz zz).nt
      · rw [trunc_lt _ hj']
        show both i Z θ (i+j)=_
        rw [both_ge (by omega)]
        congr 1;omega
      · rw [trunc_ge _ (by omega)]
        exact (E3 j (by omega)).symm
    show r=(evC X _ _ _ m i js _ _).res∧_∧Has _ _ (evC X _ _ _ m i js _ _).post∧Has _ _ (evC X _ _ _ m i js _ _).new∧_
    unfold evC
    simp only [t1,t2,t3,t4]
    refine ⟨E.res,rfl,E5,?_,fun j hj'=>?_,fun j j' hj1 hj2 z=>?_,E9⟩
    · have:(List.range (evX X js s m i).k).map (fun j=>both m J (shift (X zz zz).n0 μ) ((evX X js s m i).m+j))=(List.range (X zz zz).k).map fun j=>μ ((X zz zz).n0+j):=by
        refine List.map_congr_left fun j _=>?_
        show both m J _ (m+j)=_
        rw [both_ge (by omega)]
        show μ _=_
        congr 1;omega
      rw [this];exact E6
    · show _≤both m J _ (m+j)
      rw [both_ge (by omega)]
      show _≤μ _
      rw [Nat.add_sub_cancel_left];exact E7 j hj'
    · have z:both m J (shift (X zz zz).n0 μ) (m+j)=both m J (shift (X zz zz).n0 μ) (m+j'):=z
      rw [both_ge (by omega),both_ge (by omega)] at z
      have z:μ _=μ _:=z
      rw [Nat.add_sub_cancel_left,Nat.add_sub_cancel_left] at z
      exact E8 j j' hj1 hj2 z
theorem va_nil {w:World}:ValidAll prg w (gl w.params) []:=fun _ h=>by cases h
theorem va_cons {w:World}{e:Ev}{es:List Ev}(h:ValidC prg w (gl w.params) e)(hs:ValidAll prg w (gl w.params) es):ValidAll prg w (gl w.params) (e::es):=fun x hx=>by
  rcases mQ hx with rfl | hx
  · exact h
  · exact hs x hx
noncomputable def look (n0:Nat)(ns:List Nat)(r:Result)(T:BT)(m i:Nat):Result×List (Option Obj)×List (Option Obj):=(r,(List.range n0).map T.get,ns.map T.get)
noncomputable def runOut (X:Spec)(t:Nu→Sem Fin)(Pw:Params)(b1 b2:Bool)(fuel:Nat)(hs:List Nat)(cs:List Ev)(J Z:Nu):Out :=
  sim prg (rowsP Pw b1 b2) (gl Pw) X.d J Z fuel (X.code (trunc X.n0 J)) [] (t (trunc X.n0 J)) (T0 (X.pre (trunc X.n0 J))) X.n0 0 hs cs []
noncomputable def runL (X:Spec)(t:Nu→Sem Fin)(Pw:Params)(b1 b2:Bool)(fuel:Nat)(hs:List Nat)(cs:List Ev)(ns:List Nat)(J Z:Nu) :=
  ((runOut X t Pw b1 b2 fuel hs cs J Z).L,(runOut X t Pw b1 b2 fuel hs cs J Z).get (look X.n0 ns))
noncomputable def runR (X:Spec)(t:Nu→Sem Fin)(Pw:Params)(b1 b2:Bool)(fuel:Nat)(hs:List Nat)(cs:List Ev)(ns ts:List Nat)(J Z:Nu) :=
  ((runOut X t Pw b1 b2 fuel hs cs J Z).R,some ((fun (μ θ:Nu)=>(X.res μ θ,(X.post μ θ).map some,(X.new μ θ).map some)) (both X.n0 J (sel ns J)) (sel ts Z)))
noncomputable def up (J:Nu):Nu:=fun j=>Nat.add (J j) 183
abbrev RG (X:Spec)(t:Nu→Sem Fin)(Pw:Params)(b1 b2:Bool)(fuel:Nat)(hs:List Nat)(cs:List Ev)(ns ts:List Nat)(J Z:Nu):Prop:=runL X t Pw b1 b2 fuel hs cs ns J Z=runR X t Pw b1 b2 fuel hs cs ns ts J Z
abbrev RE (X:Spec)(t:Nu→Sem Fin)(Pw:Params)(b1 b2:Bool)(fuel:Nat)(hs:List Nat)(cs:List Ev)(ns ts:List Nat)(J Z:Nu):Prop:=runL X t Pw b1 b2 fuel hs cs ns (up J) Z=runR X t Pw b1 b2 fuel hs cs ns ts (up J) Z
abbrev RD (X:Spec)(Pw:Params)(b1 b2:Bool)(fuel:Nat)(hs:List Nat)(cs:List Ev)(ns ts:List Nat)(J Z:Nu):Prop:=RE X (fun J=>den (X.code J)) Pw b1 b2 fuel hs cs ns ts J Z
theorem vc {w:World}{X:Nu→Nu→Spec}{js:List Nat}{s m i:Nat}{es:List Ev}(h:∀ J Z,(X J Z).Ok w)(r:(fun J Z=>((X J Z).n0,(X J Z).k,(X J Z).nt,(X J Z).d,js.length,js.all fun j=>Nat.blt j m))=fun _ _=>((X zz zz).n0,(X zz zz).k,(X zz zz).nt,(X zz zz).d,(X zz zz).n0,true))(t:ValidAll prg w (gl w.params) es):ValidAll prg w (gl w.params) (evX X js s m i::es):=by
  have q:∀ J Z,((X J Z).n0,(X J Z).k,(X J Z).nt,(X J Z).d,js.length,js.all fun j=>Nat.blt j m)=((X zz zz).n0,(X zz zz).k,(X zz zz).nt,(X zz zz).d,(X zz zz).n0,true):=fun J Z=>congrFun (congrFun r J) Z
  simp only [Prod.mk.injEq] at q
  refine va_cons (valid_evX h (fun J Z=>⟨(q J Z).1,(q J Z).2.1,(q J Z).2.2.1,(q J Z).2.2.2.1⟩) (q zz zz).2.2.2.2.1 fun j hj=>?_) t
  have:=List.all_eq_true.mp (q zz zz).2.2.2.2.2 j hj
  exact Nat.lt_of_lt_of_le (Nat.lt_succ_self j) (Nat.le_of_ble_eq_true this)
theorem up_eq {J:Nu}(h:∀ j,183≤J j):up (fun j=>J j-183)=J:=by
  funext j
  have:=h j
  show J j-183+183=J j
  omega
noncomputable abbrev row1 (w:World):Bool:=w.params.followText "special-get-raises"
noncomputable abbrev row2 (w:World):Bool:=w.params.followText "comprehension-iter-twice"
theorem wp_run {w:World}{X:Spec}{t:Nu→Sem Fin}{fuel:Nat}{hs:List Nat}{cs:List Ev}{ns ts:List Nat}(V:ValidAll prg w (gl w.params) cs)(hk:ns.length=X.k)(ht:ts.length=X.nt)(hn:ns.Nodup)(hge:∀ j∈ns,X.n0≤j)
    (run:∀ J Z,runL X t w.params (row1 w) (row2 w) fuel hs cs ns (up J) Z=runR X t w.params (row1 w) (row2 w) fuel hs cs ns ts (up J) Z)
    {J:Nu} {A:Around} {s:Shared} (sA:Small A X.d) (hg:∀ a o,gl w.params a=some o→s.heap.get? a=some o) (hp:Has s.heap (rng X.n0 J) (X.pre (trunc X.n0 J))) (hnd:(rng X.n0 J).Nodup)
    (hout:∀ a∈rng X.n0 J,gl w.params a=none∧183≤a) {R:Result→Shared→Prop} (hR:∀ r s',(∃ μ θ,Ends w X J s r s' μ θ)→R r s') :
    wpOwn (model prg w) A (X.code (trunc X.n0 J)) (t (trunc X.n0 J)) (postC prg w A R) (postE R) s:=by
  refine wp_of_sim (as:=rng X.n0 J) (n:=fuel) (hs:=hs) (cs:=cs) (rows_eq w.params) (Post:=fun r os nw=>∃ μ θ:Nu,Agree X.n0 μ J∧(∀ j,X.n0+X.k≤j→μ j=0)∧(∀ j,X.nt≤j→θ j=0)∧r=X.res μ θ∧os=X.post μ θ∧(X.new μ θ).length=X.k∧nw=((List.range X.k).map fun j=>μ (X.n0+j)).zip (X.new μ θ)) V ?_ sA hg hp hnd hout ?_
  · intro J' Z' hlo hJ
    have run:=fun Z=>run (fun j=>J' j-183) Z
    rw [up_eq hlo] at run
    have hag:Agree X.n0 J' J:=fun j hj=>by
      rw [hJ j (by rw [rng_len];exact hj)]
      unfold nuOf
      rw [List.getD_eq_getElem?_getD,show (rng X.n0 J)[j]?=some (J j) from by unfold rng;rw [List.getElem?_map,List.getElem?_range hj];rfl];rfl
    have htr:trunc X.n0 J=trunc X.n0 J':=trunc_eq hag.symm
    rw [rng_len,htr]
    refine good_of (run Z') fun r T m i h=>?_
    obtain ⟨h1,h23⟩:=Prod.mk.inj h
    obtain ⟨h2,h3⟩:=Prod.mk.inj h23
    have hlen:(X.new (both X.n0 J' (sel ns J')) (sel ts Z')).length=X.k:=by
      have:=congrArg List.length h3
      rw [List.length_map,List.length_map] at this
      omega
    refine ⟨X.post (both X.n0 J' (sel ns J')) (sel ts Z'),ns,X.new (both X.n0 J' (sel ns J')) (sel ts Z'),⟨both X.n0 J' (sel ns J'),sel ts Z',fun j hj=>(both_lt hj).trans (hag j hj),fun j hj=>?_,fun j hj=>sel_ge (by omega),h1,rfl,hlen,?_⟩,h2,h3,hn,hge⟩
    · rw [both_ge (by omega),sel_ge (by omega)]
    · congr 1
      refine List.ext_getElem? fun j=>?_
      rw [List.getElem?_map,List.getElem?_map]
      by_cases hj:j<X.k
      · rw [List.getElem?_range hj,List.getElem?_eq_getElem (by omega),Option.map_some,Option.map_some,both_ge (by omega),Nat.add_sub_cancel_left,sel_lt (by omega)]
      · rw [List.getElem?_eq_none (by omega),List.getElem?_eq_none (by rw [List.length_range];omega)];rfl
  · rintro r s' ⟨os,nw,⟨μ,θ,a1,a2,a3,a4,a5,a6,a7⟩,b1,b2,b3,b4⟩
    have hl1:((List.range X.k).map fun j=>μ (X.n0+j)).length=X.k:=by rw [List.length_map,List.length_range]
    have m1:nw.map (·.1)=(List.range X.k).map fun j=>μ (X.n0+j):=by rw [a7,List.map_fst_zip (by omega)]
    have at1:∀ j,j<X.k→∃ o,nw[j]?=some (μ (X.n0+j),o)∧(X.new μ θ)[j]?=some o:=fun j hj=>by
      refine ⟨(X.new μ θ)[j]'(by omega),?_,List.getElem?_eq_getElem _⟩
      rw [a7,List.getElem?_zip_eq_some]
      exact ⟨by rw [List.getElem?_map,List.getElem?_range hj];rfl,List.getElem?_eq_getElem _⟩
    refine hR r s' ⟨μ,θ,a1,a2,a3,a4,a5▸b1,?_,fun j hj=>?_,fun j j' hj hj' e=>?_,b4⟩
    · show List.map _ _=List.map _ _
      refine List.ext_getElem? fun j=>?_
      by_cases hj:j<X.k
      · obtain ⟨o,h1,h2⟩:=at1 j hj
        rw [List.getElem?_map,List.getElem?_map,List.getElem?_map,List.getElem?_range hj,h2]
        exact congrArg some (b2 _ (List.mem_of_getElem? h1)).1
      · rw [List.getElem?_eq_none (by rw [List.length_map];omega),List.getElem?_eq_none (by rw [List.length_map];omega)]
    · obtain ⟨o,h1,h2⟩:=at1 j hj
      exact (b2 _ (List.mem_of_getElem? h1)).2
    · rw [m1] at b3
      have g:∀ x,(hx:x<X.k)→((List.range X.k).map fun j=>μ (X.n0+j))[x]'(by omega)=μ (X.n0+x):=fun x hx=>by
        rw [List.getElem_map,List.getElem_range]
      exact nodup_inj (hi:=by omega) (hj:=by omega) b3 (by rw [g j hj,g j' hj'];exact e)
theorem ok_of_run {w:World}{X:Spec}{fuel:Nat}{hs:List Nat}{cs:List Ev}{ns ts:List Nat}(V:ValidAll prg w (gl w.params) cs)(hk:ns.length=X.k)(ht:ts.length=X.nt)(hn:ns.Nodup)(hge:∀ j∈ns,X.n0≤j)
    (run:∀ J Z,runL X (fun J=>den (X.code J)) w.params (row1 w) (row2 w) fuel hs cs ns (up J) Z=runR X (fun J=>den (X.code J)) w.params (row1 w) (row2 w) fuel hs cs ns ts (up J) Z):X.Ok w:=by
  intro J A s sA hg hp hnd hout
  refine y_code _ _ _ _ _ _ ?_
  rw [den_eq]
  exact wp_run (t:=fun J=>den (X.code J)) V hk ht hn hge run sA hg hp hnd hout fun _ _ x=>x
theorem ok_of_con {w:World} {X:Spec} (h:∀ J,Con w X.d (X.code (trunc X.n0 J)) (rng X.n0 J) (X.pre (trunc X.n0 J)) (fun r os nw=>∃ ts:List Nat,ts.length=X.nt∧nw.length=X.k ∧
    r=X.res (both X.n0 J (fun j=>(nw.map (·.1)).getD j 0)) (fun j=>ts.getD j 0)∧os=X.post (both X.n0 J (fun j=>(nw.map (·.1)).getD j 0)) (fun j=>ts.getD j 0)∧nw.map (·.2)=X.new (both X.n0 J (fun j=>(nw.map (·.1)).getD j 0)) (fun j=>ts.getD j 0))):X.Ok w:=by
  intro J A s sA hg hp hnd hout
  refine codeAny_mono (h J A s sA hg hp hnd hout) ?_
  rintro r s' ⟨os,nw,⟨ts,ht,hk,hr,ho,hn⟩,hos,hnw,hnn,F⟩
  have at':∀ j,both X.n0 J (fun j=>(nw.map (·.1)).getD j 0) (X.n0+j)=(nw.map (·.1)).getD j 0:=fun j=>by rw [both_ge (by omega),Nat.add_sub_cancel_left]
  have g:∀ x,(hx:x<X.k)→(nw.map (·.1)).getD x 0=(nw[x]'(by omega)).1:=fun x hx=>by
    rw [List.getD_eq_getElem?_getD,List.getElem?_map,List.getElem?_eq_getElem (l:=nw) (i:=x) (by omega)];rfl
  refine ⟨_,_,fun j hj=>both_lt hj,fun j hj=>?_,fun j hj=>getD_big (by omega),hr,ho▸hos,?_,fun j hj=>?_,fun j j' hj hj' z=>?_,F⟩
  · rw [both_ge (by omega),getD_big (by rw [List.length_map];omega)]
  · rw [← hn]
    show List.map _ _=List.map _ _
    rw [List.map_map,List.map_map]
    refine List.ext_getElem? fun j=>?_
    rw [List.getElem?_map,List.getElem?_map]
    by_cases hj:j<X.k
    · rw [List.getElem?_range hj,List.getElem?_eq_getElem (l:=nw) (i:=j) (by omega)]
      simp only [Option.map_some,Function.comp]
      rw [at' j,g j hj]
      exact congrArg some (hnw _ (List.getElem_mem _)).1
    · rw [List.getElem?_eq_none (by rw [List.length_range];omega),List.getElem?_eq_none (l:=nw) (by omega)];rfl
  · rw [at' j,g j hj]
    exact (hnw _ (List.getElem_mem _)).2
  · rw [at' j,at' j',g j hj,g j' hj'] at z
    have:=nodup_inj (l:=nw.map (·.1)) (i:=j) (j:=j') (hi:=by rw [List.length_map];omega) (hj:=by rw [List.length_map];omega) hnn (by rw [List.getElem_map,List.getElem_map];exact z)
    exact this
end
section
open PySem PySem.W PySem.W.X PySem.Spec PySem.Calls
set_option maxHeartbeats 0
noncomputable def fnB (n:Nat):List Stmt:=match prg.main.body.drop n with
  | .FunctionDef _ _ b ..::_=>b
  | _=>[]
noncomputable def clB (n k:Nat):List Stmt:=match prg.main.body.drop n with
  | .ClassDef _ _ _ b ..::_=>(match b.drop k with
    | .FunctionDef _ _ b ..::_=>b
    | _=>[])
  | _=>[]
noncomputable def clS (n k:Nat):Scope:=match prg.main.body.drop n with
  | .ClassDef _ _ _ b ..::_=>(match b.drop k with
    | .FunctionDef (scope:=s) ..::_=>s
    | _=>default)
  | _=>default
noncomputable def lamP:LamP:=match fnB 13 with
  | _::.Assign _ (.Lambda a e s _) _::_=>(a,.expr e,s)
  | _=>(default,default,default)
structure SP where
  hf:Nat→Int
  tf:Nat→Nat
  hg:Nat→Int
  tg:Nat→Nat
  ln2:Value
  pb2:Nat
  e1:Nat
  e2:Nat
  v0:Value
  q:Str
  tq:Nat
  rest:List Value
  ct:Nat
noncomputable def strm (p:SP)(J:Nu)(b:Nat)(ln:Value)(pb:Nat)(left:List Value)(e:Nat):List Obj :=
  [lexO (J (b+1)),lexD p.hf p.tf ln (.ref (J (b+2))) pb [] p.e1,lexO (J (b+3)),lexD p.hg p.tg p.ln2 .none p.pb2 [⟨p.hg 5,.str sRead (p.tg 5),.ref (J (b+4))⟩] p.e2,
    lamO lamP (J (b+6)) (J (b+5)) p.ct,codO p.v0 p.q p.tq p.rest,cellO (.ref (J (b+7))),lst left e]
noncomputable def methO (f a:Nat):Obj:={ cls:=.type "method",data:=.fields #[.ref f,.ref a] }
noncomputable def itO (m s:Value)(b:Bool):Obj:={ cls:=.type "callable_iterator",data:=.fields #[m,s,.bool b] }
noncomputable def X_val (c:Code)(v:Value):Spec:={ n0:=0,k:=0,nt:=0,d:=900,code:=fun _=>c,pre:=fun _=>[],res:=fun _ _=>.ok (.ret v),post:=fun _ _=>[],new:=fun _ _=>[] }
theorem ok_val {w:World}{c:Code}{v:Value}(h:Con w 900 c [] [] (fun r os nw=>r=.ok (.ret v)∧os=[]∧nw=[])):(X_val c v).Ok w :=
  ok_of_con fun J=>h.mono fun r os nw ⟨h1,h2,h3⟩=>⟨[],rfl,by rw [h3];rfl,h1,h2,by rw [h3];rfl⟩
noncomputable def X_tok (c:Code)(v:Nat→Value):Spec:={ n0:=0,k:=0,nt:=1,d:=900,code:=fun _=>c,pre:=fun _=>[],res:=fun _ Z=>.ok (.ret (v (Z 0))),post:=fun _ _=>[],new:=fun _ _=>[] }
theorem ok_tok {w:World}{c:Code}{v:Nat→Value}(h:Con w 900 c [] [] (fun r os nw=>(∃ t,r=.ok (.ret (v t)))∧os=[]∧nw=[])):(X_tok c v).Ok w :=
  ok_of_con fun J=>h.mono fun r os nw ⟨⟨t,h1⟩,h2,h3⟩=>⟨[t],rfl,by rw [h3];rfl,h1,h2,by rw [h3];rfl⟩
noncomputable def X_app (x:Value)(vs:List Value)(e:Nat):Spec:={ n0:=1,k:=0,nt:=0,d:=900,code:=fun J=>.builtin "list.append" ⟨[.ref (J 0),x],[]⟩,pre:=fun _=>[lst vs e],res:=fun _ _=>.ok (.ret .none),post:=fun _ _=>[lst (vs++[x]) (e+1)],new:=fun _ _=>[] }
theorem ok_app {w:World}{x:Value}{vs:List Value}{e:Nat}(hl:vs.length≤sizeLine):(X_app x vs e).Ok w :=
  ok_of_con fun J=>(con_append hl).mono fun r os nw ⟨h1,h2,h3⟩=>⟨[],rfl,by rw [h3];rfl,h1,h2,by rw [h3];rfl⟩
noncomputable def X_pop0 (v:Value)(vs:List Value)(e u:Nat):Spec:={ n0:=1,k:=0,nt:=0,d:=900,code:=fun J=>.builtin "list.pop" ⟨[.ref (J 0),.int 0 u],[]⟩,pre:=fun _=>[lst (v::vs) e],res:=fun _ _=>.ok (.ret v),post:=fun _ _=>[lst vs (e+1)],new:=fun _ _=>[] }
theorem ok_pop0 {w:World}{v:Value}{vs:List Value}{e u:Nat}(hl:vs.length<sizeLine):(X_pop0 v vs e u).Ok w :=
  ok_of_con fun J=>(con_pop0 hl).mono fun r os nw ⟨h1,h2,h3⟩=>⟨[],rfl,by rw [h3];rfl,h1,h2,by rw [h3];rfl⟩
noncomputable def X_lenL (vs:List Value)(e:Nat):Spec:={ n0:=1,k:=0,nt:=1,d:=900,code:=fun J=>.builtin "len" ⟨[.ref (J 0)],[]⟩,pre:=fun _=>[lst vs e],res:=fun _ Z=>.ok (.ret (.int vs.length (Z 0))),post:=fun _ _=>[lst vs e],new:=fun _ _=>[] }
theorem ok_lenL {w:World}{vs:List Value}{e:Nat}(hl:vs.length≤sizeLine):(X_lenL vs e).Ok w :=
  ok_of_con fun J=>(con_len_list hl).mono fun r os nw ⟨⟨t,h1⟩,h2,h3⟩=>⟨[t],rfl,by rw [h3];rfl,h1,h2,by rw [h3];rfl⟩
noncomputable def X_eq (x:Str)(t:Nat)(y:Str)(u:Nat)(b:Bool):Spec:=X_val (.builtin "str.__eq__" ⟨[.str x t,.str y u],[]⟩) (.bool b)
theorem ok_eq {w:World}{x y:Str}{t u:Nat}{b:Bool}(hb:(x.cps.toList==y.cps.toList)=b):(X_eq x t y u b).Ok w:=ok_val (con_str_eq hb)
noncomputable def X_add (x:Str)(t:Nat)(y:Str)(u:Nat):Spec:=X_tok (.builtin "str.__add__" ⟨[.str x t,.str y u],[]⟩) (fun t=>.str (x++y) t)
theorem ok_add {w:World}{x y:Str}{t u:Nat}(hx:x.length≠0)(hy:y.length≠0)(hl:(x++y).length≤sizeLine):(X_add x t y u).Ok w:=ok_tok (con_str_add hx hy hl)
noncomputable def X_add0 (x:Str)(t:Nat)(y:Str)(u:Nat):Spec:=X_val (.builtin "str.__add__" ⟨[.str x t,.str y u],[]⟩) (.str y u)
theorem ok_add0 {w:World}{x y:Str}{t u:Nat}(hx:x.length=0):(X_add0 x t y u).Ok w:=ok_val (con_str_add0 hx)
noncomputable def X_lenS (x:Str)(t:Nat):Spec:=X_tok (.builtin "len" ⟨[.str x t],[]⟩) (fun t=>.int x.length t)
theorem ok_lenS {w:World}{x:Str}{t:Nat}(hl:x.length≤sizeLine):(X_lenS x t).Ok w:=ok_tok (con_len_str hl)
noncomputable def X_push (hf:Nat→Int)(tf:Nat→Nat)(ln ins:Value)(e e1:Nat)(more:List DictEntry)(sv:Str)(tv:Nat)(vs:List Value):Spec:={ n0:=3,k:=0,nt:=0,d:=500,code:=fun J=>.call (.ref 157) ⟨[.ref (J 0),.str sv tv],[]⟩,pre:=fun J=>[lexO (J 1),lexD hf tf ln ins (J 2) more e1,lst vs e],res:=fun J Z=>.ok (.ret .none),post:=fun J Z=>[lexO (J 1),lexD hf tf ln ins (J 2) more e1,lst (vs++[.str sv tv]) (e+1)],new:=fun J Z=>[] }
noncomputable def push_hs (b1 b2:Bool):List Nat:=[0,0,4,4,4,4,1,4,1,0,0,0,1,0,0,0,1,1,0,2,3,3,3,3,4,3]
noncomputable def push_cs (hf:Nat→Int)(tf:Nat→Nat)(ln ins:Value)(e e1:Nat)(more:List DictEntry)(sv:Str)(tv:Nat)(vs:List Value)(b1 b2:Bool):List Ev:=[evX (fun J Z=>X_app (.str sv tv) vs e) [2] 3 4 3]
theorem run_push (hf:Nat→Int)(tf:Nat→Nat)(ln ins:Value)(e e1:Nat)(more:List DictEntry)(sv:Str)(tv:Nat)(vs:List Value)(Pw:Params):∀ (b1 b2:Bool) (J Z:Nu),RD (X_push hf tf ln ins e e1 more sv tv vs) Pw b1 b2 53 (push_hs b1 b2) (push_cs hf tf ln ins e e1 more sv tv vs b1 b2) [] [] J Z
  | true,b2,J,Z=>by kernel_rfl
  | false,b2,J,Z=>by kernel_rfl
theorem ok_push (w:World){hf:Nat→Int}{tf:Nat→Nat}{ln ins:Value}{e e1:Nat}{more:List DictEntry}{sv:Str}{tv:Nat}{vs:List Value}(hl:vs.length≤sizeLine):(X_push hf tf ln ins e e1 more sv tv vs).Ok w :=
  ok_of_run (hs:=push_hs (row1 w) (row2 w)) (cs:=push_cs hf tf ln ins e e1 more sv tv vs (row1 w) (row2 w)) (ns:=[]) (ts:=[]) (vc (fun J Z=>ok_app hl) rfl (va_nil)) rfl rfl (by decide) (show ∀ j∈([]:List Nat),3≤j by decide) (run_push hf tf ln ins e e1 more sv tv vs w.params (row1 w) (row2 w))
noncomputable def X_gtpop (hf:Nat→Int)(tf:Nat→Nat)(ln ins:Value)(e e1:Nat)(more:List DictEntry)(sv:Str)(tv:Nat)(vs:List Value):Spec:={ n0:=3,k:=0,nt:=0,d:=500,code:=fun J=>.call (.ref 150) ⟨[.ref (J 0)],[]⟩,pre:=fun J=>[lexO (J 1),lexD hf tf ln ins (J 2) more e1,lst (.str sv tv::vs) e],res:=fun J Z=>.ok (.ret (.str sv tv)),post:=fun J Z=>[lexO (J 1),lexD hf tf ln ins (J 2) more e1,lst vs (e+1)],new:=fun J Z=>[] }
noncomputable def gtpop_hs (b1 b2:Bool):List Nat:=[0,0,4,4,1,4,1,0,0,0,1,0,0,0,1,1,0,2,3,3,4,1,0,0,0,1,0,0,0,1,1,0,2,3,3,3,3,3]
noncomputable def gtpop_cs (hf:Nat→Int)(tf:Nat→Nat)(ln ins:Value)(e e1:Nat)(more:List DictEntry)(sv:Str)(tv:Nat)(vs:List Value)(b1 b2:Bool):List Ev:=[evX (fun J Z=>X_lenL (.str sv tv::vs) e) [2] 2 4 2,evX (fun J Z=>X_pop0 (.str sv tv) vs e (Z 4)) [2] 2 4 5]
theorem run_gtpop (hf:Nat→Int)(tf:Nat→Nat)(ln ins:Value)(e e1:Nat)(more:List DictEntry)(sv:Str)(tv:Nat)(vs:List Value)(Pw:Params):∀ (b1 b2:Bool) (J Z:Nu),RD (X_gtpop hf tf ln ins e e1 more sv tv vs) Pw b1 b2 72 (gtpop_hs b1 b2) (gtpop_cs hf tf ln ins e e1 more sv tv vs b1 b2) [] [] J Z
  | true,b2,J,Z=>by kernel_rfl
  | false,b2,J,Z=>by kernel_rfl
theorem ok_gtpop (w:World){hf:Nat→Int}{tf:Nat→Nat}{ln ins:Value}{e e1:Nat}{more:List DictEntry}{sv:Str}{tv:Nat}{vs:List Value}(hl:vs.length<sizeLine):(X_gtpop hf tf ln ins e e1 more sv tv vs).Ok w :=
  ok_of_run (hs:=gtpop_hs (row1 w) (row2 w)) (cs:=gtpop_cs hf tf ln ins e e1 more sv tv vs (row1 w) (row2 w)) (ns:=[]) (ts:=[]) (vc (fun J Z=>ok_lenL (by simp;omega)) rfl (vc (fun J Z=>ok_pop0 hl) rfl (va_nil))) rfl rfl (by decide) (show ∀ j∈([]:List Nat),3≤j by decide) (run_gtpop hf tf ln ins e e1 more sv tv vs w.params (row1 w) (row2 w))
noncomputable def X_lam (p:SP)(e ti:Nat)(sv:Str)(tv:Nat)(vs:List Value):Spec:={ n0:=4,k:=0,nt:=0,d:=600,code:=fun J=>.call (.ref (J 0)) ⟨[.int 1 ti],[]⟩,pre:=fun J=>[lamO lamP (J 2) (J 1) p.ct,codO p.v0 p.q p.tq p.rest,cellO (.ref (J 3)),lst (.str sv tv::vs) e],res:=fun J Z=>.ok (.ret (.str sv tv)),post:=fun J Z=>[lamO lamP (J 2) (J 1) p.ct,codO p.v0 p.q p.tq p.rest,cellO (.ref (J 3)),lst vs (e+1)],new:=fun J Z=>[] }
noncomputable def lam_hs (b1 b2:Bool):List Nat:=[1,2,5,5,1,3,4,4,3,4,4,4,4,4]
noncomputable def lam_cs (p:SP)(e ti:Nat)(sv:Str)(tv:Nat)(vs:List Value)(b1 b2:Bool):List Ev:=[evX (fun J Z=>X_lenL (.str sv tv::vs) e) [3] 1 5 1,evX (fun J Z=>X_pop0 (.str sv tv) vs e (Z 2)) [3] 1 5 3]
theorem run_lam (p:SP)(e ti:Nat)(sv:Str)(tv:Nat)(vs:List Value)(Pw:Params):∀ (b1 b2:Bool) (J Z:Nu),RD (X_lam p e ti sv tv vs) Pw b1 b2 36 (lam_hs b1 b2) (lam_cs p e ti sv tv vs b1 b2) [] [] J Z
  | true,b2,J,Z=>by kernel_rfl
  | false,b2,J,Z=>by kernel_rfl
theorem ok_lam (w:World){p:SP}{e ti:Nat}{sv:Str}{tv:Nat}{vs:List Value}(hl:vs.length<sizeLine):(X_lam p e ti sv tv vs).Ok w :=
  ok_of_run (hs:=lam_hs (row1 w) (row2 w)) (cs:=lam_cs p e ti sv tv vs (row1 w) (row2 w)) (ns:=[]) (ts:=[]) (vc (fun J Z=>ok_lenL (by simp;omega)) rfl (vc (fun J Z=>ok_pop0 hl) rfl (va_nil))) rfl rfl (by decide) (show ∀ j∈([]:List Nat),4≤j by decide) (run_lam p e ti sv tv vs w.params (row1 w) (row2 w))
noncomputable def X_lamE (p:SP)(e ti:Nat):Spec:={ n0:=4,k:=0,nt:=1,d:=600,code:=fun J=>.call (.ref (J 0)) ⟨[.int 1 ti],[]⟩,pre:=fun J=>[lamO lamP (J 2) (J 1) p.ct,codO p.v0 p.q p.tq p.rest,cellO (.ref (J 3)),lst [] e],res:=fun J Z=>.ok (.ret (.str ⟨#[]⟩ (Z 0))),post:=fun J Z=>[lamO lamP (J 2) (J 1) p.ct,codO p.v0 p.q p.tq p.rest,cellO (.ref (J 3)),lst [] e],new:=fun J Z=>[] }
noncomputable def lamE_hs (b1 b2:Bool):List Nat:=[1,2,5,5,1,3,4,4,4,4,4]
noncomputable def lamE_cs (p:SP)(e ti:Nat)(b1 b2:Bool):List Ev:=[]
theorem run_lamE (p:SP)(e ti:Nat)(Pw:Params):∀ (b1 b2:Bool) (J Z:Nu),RD (X_lamE p e ti) Pw b1 b2 33 (lamE_hs b1 b2) (lamE_cs p e ti b1 b2) [] [3] J Z
  | true,b2,J,Z=>by kernel_rfl
  | false,b2,J,Z=>by kernel_rfl
theorem ok_lamE (w:World){p:SP}{e ti:Nat}  : (X_lamE p e ti).Ok w :=
  ok_of_run (hs:=lamE_hs (row1 w) (row2 w)) (cs:=lamE_cs p e ti (row1 w) (row2 w)) (ns:=[]) (ts:=[3]) (va_nil) rfl rfl (by decide) (show ∀ j∈([]:List Nat),4≤j by decide) (run_lamE p e ti w.params (row1 w) (row2 w))
noncomputable def X_rc (p:SP)(n:Int)(tn pb e:Nat)(sv:Str)(tv:Nat)(vs:List Value):Spec:={ n0:=8,k:=0,nt:=0,d:=540,code:=fun J=>.call (.ref 143) ⟨[.ref (J 0)],[]⟩,pre:=fun J=>(strm p J 0 (.int n tn) pb (.str sv tv::vs) e),res:=fun J Z=>.ok (.ret (.str sv tv)),post:=fun J Z=>(strm p J 0 (.int n tn) pb vs (e+1)),new:=fun J Z=>[] }
noncomputable def rc_hs (b1 b2:Bool):List Nat:=[0,0,9,9,1,9,1,0,0,0,1,0,0,0,1,1,0,2,3,0,0,0,3,0,0,0,3,0,0,0,3,0,0,0,3,0,0,0,3,3,0,4,5,9,9,9,9]
noncomputable def rc_cs (p:SP)(n:Int)(tn pb e:Nat)(sv:Str)(tv:Nat)(vs:List Value)(b1 b2:Bool):List Ev:=[evX (fun J Z=>X_lam p e (Z 3) sv tv vs) [4,5,6,7] 3 9 4,evX (fun J Z=>X_eq sv tv ⟨#[10]⟩ (Z 5) false) [] 1 9 6]
theorem run_rc (p:SP)(n:Int)(tn pb e:Nat)(sv:Str)(tv:Nat)(vs:List Value)(Pw:Params):∀ (b1 b2:Bool) (J Z:Nu),RD (X_rc p n tn pb e sv tv vs) Pw b1 b2 88 (rc_hs b1 b2) (rc_cs p n tn pb e sv tv vs b1 b2) [] [] J Z
  | true,b2,J,Z=>by kernel_rfl
  | false,b2,J,Z=>by kernel_rfl
theorem ok_rc (w:World){p:SP}{n:Int}{tn pb e:Nat}{sv:Str}{tv:Nat}{vs:List Value}(hl:vs.length<sizeLine)(hne:(sv.cps.toList==[10])=false):(X_rc p n tn pb e sv tv vs).Ok w :=
  ok_of_run (hs:=rc_hs (row1 w) (row2 w)) (cs:=rc_cs p n tn pb e sv tv vs (row1 w) (row2 w)) (ns:=[]) (ts:=[]) (vc (fun J Z=>ok_lam w hl) rfl (vc (fun J Z=>ok_eq hne) rfl (va_nil))) rfl rfl (by decide) (show ∀ j∈([]:List Nat),8≤j by decide) (run_rc p n tn pb e sv tv vs w.params (row1 w) (row2 w))
noncomputable def X_rcN (p:SP)(n:Int)(tn pb e tv:Nat)(vs:List Value):Spec:={ n0:=8,k:=0,nt:=1,d:=540,code:=fun J=>.call (.ref 143) ⟨[.ref (J 0)],[]⟩,pre:=fun J=>(strm p J 0 (.int n tn) pb (.str ⟨#[10]⟩ tv::vs) e),res:=fun J Z=>.ok (.ret (.str ⟨#[10]⟩ tv)),post:=fun J Z=>(strm p J 0 (.int (n+1) (Z 0)) pb vs (e+1)),new:=fun J Z=>[] }
noncomputable def rcN_hs (b1 b2:Bool):List Nat:=[0,0,9,9,1,9,1,0,0,0,1,0,0,0,1,1,0,2,3,0,0,0,3,0,0,0,3,0,0,0,3,0,0,0,3,0,0,0,3,3,0,4,5,9,9,9,9,1,0,0,0,1,0,0,0,1,1,0,2,1,0,0,0,1,0,1,0,1,0,0,0,1,0,2,2,2,9]
noncomputable def rcN_cs (p:SP)(n:Int)(tn pb e tv:Nat)(vs:List Value)(b1 b2:Bool):List Ev:=[evX (fun J Z=>X_lam p e (Z 3) ⟨#[10]⟩ tv vs) [4,5,6,7] 3 9 4]
theorem run_rcN (p:SP)(n:Int)(tn pb e tv:Nat)(vs:List Value)(Pw:Params):∀ (b1 b2:Bool) (J Z:Nu),RD (X_rcN p n tn pb e tv vs) Pw b1 b2 139 (rcN_hs b1 b2) (rcN_cs p n tn pb e tv vs b1 b2) [] [8] J Z
  | true,b2,J,Z=>by kernel_rfl
  | false,b2,J,Z=>by kernel_rfl
theorem ok_rcN (w:World){p:SP}{n:Int}{tn pb e tv:Nat}{vs:List Value}(hl:vs.length<sizeLine):(X_rcN p n tn pb e tv vs).Ok w :=
  ok_of_run (hs:=rcN_hs (row1 w) (row2 w)) (cs:=rcN_cs p n tn pb e tv vs (row1 w) (row2 w)) (ns:=[]) (ts:=[8]) (vc (fun J Z=>ok_lam w hl) rfl (va_nil)) rfl rfl (by decide) (show ∀ j∈([]:List Nat),8≤j by decide) (run_rcN p n tn pb e tv vs w.params (row1 w) (row2 w))
noncomputable def X_rcE (p:SP)(n:Int)(tn pb e:Nat):Spec:={ n0:=8,k:=0,nt:=1,d:=540,code:=fun J=>.call (.ref 143) ⟨[.ref (J 0)],[]⟩,pre:=fun J=>(strm p J 0 (.int n tn) pb [] e),res:=fun J Z=>.ok (.ret (.str ⟨#[]⟩ (Z 0))),post:=fun J Z=>(strm p J 0 (.int n tn) pb [] e),new:=fun J Z=>[] }
noncomputable def rcE_hs (b1 b2:Bool):List Nat:=[0,0,9,9,1,9,1,0,0,0,1,0,0,0,1,1,0,2,3,0,0,0,3,0,0,0,3,0,0,0,3,0,0,0,3,0,0,0,3,3,0,4,5,9,9,9,9]
noncomputable def rcE_cs (p:SP)(n:Int)(tn pb e:Nat)(b1 b2:Bool):List Ev:=[evX (fun J Z=>X_lamE p e (Z 3)) [4,5,6,7] 3 9 4]
theorem run_rcE (p:SP)(n:Int)(tn pb e:Nat)(Pw:Params):∀ (b1 b2:Bool) (J Z:Nu),RD (X_rcE p n tn pb e) Pw b1 b2 89 (rcE_hs b1 b2) (rcE_cs p n tn pb e b1 b2) [] [4] J Z
  | true,b2,J,Z=>by kernel_rfl
  | false,b2,J,Z=>by kernel_rfl
theorem ok_rcE (w:World){p:SP}{n:Int}{tn pb e:Nat}  : (X_rcE p n tn pb e).Ok w :=
  ok_of_run (hs:=rcE_hs (row1 w) (row2 w)) (cs:=rcE_cs p n tn pb e (row1 w) (row2 w)) (ns:=[]) (ts:=[4]) (vc (fun J Z=>ok_lamE w) rfl (va_nil)) rfl rfl (by decide) (show ∀ j∈([]:List Nat),8≤j by decide) (run_rcE p n tn pb e w.params (row1 w) (row2 w))
noncomputable def X_me (p:SP)(n:Int)(tn pb e:Nat)(sv:Str)(tv:Nat)(vs:List Value):Spec:={ n0:=9,k:=0,nt:=0,d:=532,code:=fun J=>.call (.ref (J 0)) ⟨[],[]⟩,pre:=fun J=>(methO 143 (J 1)::(strm p J 1 (.int n tn) pb (.str sv tv::vs) e)),res:=fun J Z=>.ok (.ret (.str sv tv)),post:=fun J Z=>(methO 143 (J 1)::(strm p J 1 (.int n tn) pb vs (e+1))),new:=fun J Z=>[] }
noncomputable def me_hs (b1 b2:Bool):List Nat:=[1]
noncomputable def me_cs (p:SP)(n:Int)(tn pb e:Nat)(sv:Str)(tv:Nat)(vs:List Value)(b1 b2:Bool):List Ev:=[evX (fun J Z=>X_rc p n tn pb e sv tv vs) [1,2,3,4,5,6,7,8] 0 9 0]
theorem run_me (p:SP)(n:Int)(tn pb e:Nat)(sv:Str)(tv:Nat)(vs:List Value)(Pw:Params):∀ (b1 b2:Bool) (J Z:Nu),RD (X_me p n tn pb e sv tv vs) Pw b1 b2 7 (me_hs b1 b2) (me_cs p n tn pb e sv tv vs b1 b2) [] [] J Z
  | true,b2,J,Z=>by kernel_rfl
  | false,b2,J,Z=>by kernel_rfl
theorem ok_me (w:World){p:SP}{n:Int}{tn pb e:Nat}{sv:Str}{tv:Nat}{vs:List Value}(hl:vs.length<sizeLine)(hne:(sv.cps.toList==[10])=false):(X_me p n tn pb e sv tv vs).Ok w :=
  ok_of_run (hs:=me_hs (row1 w) (row2 w)) (cs:=me_cs p n tn pb e sv tv vs (row1 w) (row2 w)) (ns:=[]) (ts:=[]) (vc (fun J Z=>ok_rc w hl hne) rfl (va_nil)) rfl rfl (by decide) (show ∀ j∈([]:List Nat),9≤j by decide) (run_me p n tn pb e sv tv vs w.params (row1 w) (row2 w))
noncomputable def X_meN (p:SP)(n:Int)(tn pb e tv:Nat)(vs:List Value):Spec:={ n0:=9,k:=0,nt:=1,d:=532,code:=fun J=>.call (.ref (J 0)) ⟨[],[]⟩,pre:=fun J=>(methO 143 (J 1)::(strm p J 1 (.int n tn) pb (.str ⟨#[10]⟩ tv::vs) e)),res:=fun J Z=>.ok (.ret (.str ⟨#[10]⟩ tv)),post:=fun J Z=>(methO 143 (J 1)::(strm p J 1 (.int (n+1) (Z 0)) pb vs (e+1))),new:=fun J Z=>[] }
noncomputable def meN_hs (b1 b2:Bool):List Nat:=[1]
noncomputable def meN_cs (p:SP)(n:Int)(tn pb e tv:Nat)(vs:List Value)(b1 b2:Bool):List Ev:=[evX (fun J Z=>X_rcN p n tn pb e tv vs) [1,2,3,4,5,6,7,8] 0 9 0]
theorem run_meN (p:SP)(n:Int)(tn pb e tv:Nat)(vs:List Value)(Pw:Params):∀ (b1 b2:Bool) (J Z:Nu),RD (X_meN p n tn pb e tv vs) Pw b1 b2 7 (meN_hs b1 b2) (meN_cs p n tn pb e tv vs b1 b2) [] [0] J Z
  | true,b2,J,Z=>by kernel_rfl
  | false,b2,J,Z=>by kernel_rfl
theorem ok_meN (w:World){p:SP}{n:Int}{tn pb e tv:Nat}{vs:List Value}(hl:vs.length<sizeLine):(X_meN p n tn pb e tv vs).Ok w :=
  ok_of_run (hs:=meN_hs (row1 w) (row2 w)) (cs:=meN_cs p n tn pb e tv vs (row1 w) (row2 w)) (ns:=[]) (ts:=[0]) (vc (fun J Z=>ok_rcN w hl) rfl (va_nil)) rfl rfl (by decide) (show ∀ j∈([]:List Nat),9≤j by decide) (run_meN p n tn pb e tv vs w.params (row1 w) (row2 w))
noncomputable def X_meE (p:SP)(n:Int)(tn pb e:Nat):Spec:={ n0:=9,k:=0,nt:=1,d:=532,code:=fun J=>.call (.ref (J 0)) ⟨[],[]⟩,pre:=fun J=>(methO 143 (J 1)::(strm p J 1 (.int n tn) pb [] e)),res:=fun J Z=>.ok (.ret (.str ⟨#[]⟩ (Z 0))),post:=fun J Z=>(methO 143 (J 1)::(strm p J 1 (.int n tn) pb [] e)),new:=fun J Z=>[] }
noncomputable def meE_hs (b1 b2:Bool):List Nat:=[1]
noncomputable def meE_cs (p:SP)(n:Int)(tn pb e:Nat)(b1 b2:Bool):List Ev:=[evX (fun J Z=>X_rcE p n tn pb e) [1,2,3,4,5,6,7,8] 0 9 0]
theorem run_meE (p:SP)(n:Int)(tn pb e:Nat)(Pw:Params):∀ (b1 b2:Bool) (J Z:Nu),RD (X_meE p n tn pb e) Pw b1 b2 7 (meE_hs b1 b2) (meE_cs p n tn pb e b1 b2) [] [0] J Z
  | true,b2,J,Z=>by kernel_rfl
  | false,b2,J,Z=>by kernel_rfl
theorem ok_meE (w:World){p:SP}{n:Int}{tn pb e:Nat}  : (X_meE p n tn pb e).Ok w :=
  ok_of_run (hs:=meE_hs (row1 w) (row2 w)) (cs:=meE_cs p n tn pb e (row1 w) (row2 w)) (ns:=[]) (ts:=[0]) (vc (fun J Z=>ok_rcE w) rfl (va_nil)) rfl rfl (by decide) (show ∀ j∈([]:List Nat),9≤j by decide) (run_meE p n tn pb e w.params (row1 w) (row2 w))
end
section
open PySem PySem.W PySem.W.X PySem.Spec PySem.Calls
set_option maxHeartbeats 400000
noncomputable def tupO (vs:List Value):Obj:={ cls:=.type "tuple",data:=.seq vs.toArray }
noncomputable def stopO (y:Nat):Obj:={ cls:=.type "StopIteration",data:=.fields #[.ref y,.none,.none,.none,.bool false,.none] }
theorem wpAny_borrow {w:World}{A:Around}{E:Value→Shared→Prop}{s:Shared}{f:Value}{Q:Value→Shared→Prop}
    (h:codeAny (model prg w) A (.call f ⟨[],[]⟩) (fun r s'=>match r with | .ok (.ret v)=>Q v s' | .ok _=>False | .error e=>E e s') s):wpAny (model prg w) A (callBorrowed f) Q E s:=by
  unfold callBorrowed
  refine y_start _ _ _ _ _ _ _ _ _ _ _ _ (by intro x;cases x) ?_
  rw [show A.mark none=A from rfl]
  refine codeAny_mono h fun r s' hr=>?_
  match r,hr with
  | .ok (.ret v),hr=>exact wpAny_pure hr
  | .error e,hr=>exact wpAny_throw hr
theorem tree_ciE (w:World)(A:Around)(s:Shared)(it m f a:Addr)(ts:Nat)(Q:Fin→Shared→Prop)(E:Value→Shared→Prop)(fo:Obj)(fd:FuncData)(hfd:fo.data=.func fd)(hA:A.handled=none)
   (h0:s.heap.get? it=some (itO (.ref m) (.str ⟨#[]⟩ ts) false)) (h1:s.heap.get? m=some (methO f a)) (h2:s.heap.get? f=some fo)
   (hc:codeAny (model prg w) A (.call (.ref m) ⟨[],[]⟩) (fun r s'=>∃ t,r=.ok (.ret (.str ⟨#[]⟩ t))∧s'.heap.get? it=some (itO (.ref m) (.str ⟨#[]⟩ ts) false)∧s'.heap.get? m=some (methO f a)∧s'.heap.get? f=some fo ∧
      ∀ h' y e,h'.get? it=some (itO .none .none true)→h'.get? y=some (tupO [])→h'.get? e=some (stopO y)→y≠e→(∀ b o,b≠it→s'.heap.get? b=some o→h'.get? b=some o)→s'.heap.objs.size≤y→s'.heap.objs.size≤e→s'.heap.objs.size≤h'.objs.size→E (.ref e) { s' with heap:=h' }) s) :
   wpAny (model prg w) A (Builtin.«callable_iterator.__next__» ⟨[.ref it],[]⟩) Q E s:=by
  obtain ⟨hp,g,d,tk,os⟩:=s
  have hd0:(itO (.ref m) (.str ⟨#[]⟩ ts) false).data=.fields #[.ref m,.str ⟨#[]⟩ ts,.bool false]:=rfl
  unfold Builtin.«callable_iterator.__next__»
  have f0:(#[.ref m,.str ⟨#[]⟩ ts,.bool false]:Array Value)[0]?=some (.ref m):=rfl
  have f1:(#[.ref m,.str ⟨#[]⟩ ts,.bool false]:Array Value)[1]?=some (.str ⟨#[]⟩ ts):=rfl
  have f2:(#[.ref m,.str ⟨#[]⟩ ts,.bool false]:Array Value)[2]?=some (.bool false):=rfl
  repeat (first | (with_reducible refine wpAny_field h0 hd0 f0 ?_) | (with_reducible refine wpAny_field h0 hd0 f1 ?_) | (with_reducible refine wpAny_field h0 hd0 f2 ?_) | wp_step)
  rw [hfd]
  refine wpAny_pure ?_
  rw [if_pos rfl]
  refine wpAny_borrow (codeAny_mono hc ?_)
  rintro r s' ⟨t,rfl,g0,g1,g2,k⟩
  obtain ⟨hp',g',d',tk',os'⟩:=s'
  repeat (first | (with_reducible refine wpAny_field g0 hd0 f0 ?_) | (with_reducible refine wpAny_field g0 hd0 f1 ?_) | (with_reducible refine wpAny_field g0 hd0 f2 ?_) | (with_reducible refine PyProof.Rows.eqBool_str ?_) | wp_step)
  rw [hfd]
  refine wpAny_pure ?_
  rw [if_pos rfl]
  refine wpAny_pure ?_
  refine wpAny_bind (wpAny_setField_rec g0 (by simp) fun ha e1 b1=>?_)
  refine wpAny_bind (wpAny_setField_rec e1 (by simp) fun hb e2 b2=>?_)
  refine wpAny_setField_rec e2 (by simp) fun hc e3 b3=>?_
  unfold Builtin.SmallTypes.stopIteration
  refine wpAny_bind ?_
  unfold newExc newTuple
  refine wpAny_bind (wpAny_newObj_type ?_ (by show _≤sizeLine;rw [sizeLine_eq];simp))
  refine wpAny_bind (m:=firstArgMember _ _) (wpAny_of_eq (a:=Value.none) (by rfl) ?_)
  rw [show ownMembersOf (.type "StopIteration") []=#[] from by kernel_rfl]
  refine wpAny_newObj_type ?_ (by show _≤sizeLine+2;rw [sizeLine_eq];simp)
  refine wpAny_raiseNew_none hA ?_
  refine k _ hc.objs.size _ ?_ ?_ ?_ ?_ ?_ ?_ ?_ ?_
  · exact Heap.get?_push_of_some _ (Heap.get?_push_of_some _ e3)
  · exact Heap.get?_push_of_some _ (Heap.get?_push_size _ rfl)
  · exact Heap.get?_push_size _ rfl
  · simp
  · intro b o hb e
    exact Heap.get?_push_of_some _ (Heap.get?_push_of_some _ ((b3.2 b hb).trans ((b2.2 b hb).trans ((b1.2 b hb).trans e))))
  · show _≤hc.objs.size
    rw [b3.1,b2.1,b1.1];exact Nat.le_refl _
  · show _≤(hc.push _).objs.size
    rw [Heap.size_push,b3.1,b2.1,b1.1];exact Nat.le_succ _
  · show _≤((hc.push _).push _).objs.size
    rw [Heap.size_push,Heap.size_push,b3.1,b2.1,b1.1];exact Nat.le_add_right _ 2
theorem has_cons {h:Heap}{a:Addr}{as:List Addr}{o:Obj}{os:List Obj}:Has h (a::as) (o::os)↔h.get? a=some o∧Has h as os:=by
  unfold Has
  rw [List.map_cons,List.map_cons,List.cons.injEq]
theorem small_le {A:Around}{d d':Nat}(h:Small A d)(hd:d≤d'):Small A d':=⟨h.1,Nat.le_trans h.2.1 hd,Nat.le_trans h.2.2 (Nat.mul_le_mul_left _ hd)⟩
theorem small_in1 {A:Around}{d d':Nat}(h:Small A d)(hd:d+1≤d'):Small A.in1 d':=⟨h.1,Nat.le_trans h.2.1 (by omega),by have:=h.2.2;show A.units+1≤_;omega⟩
noncomputable def X_ciE (p:SP)(n:Int)(tn pb e ts:Nat):Spec:={ n0:=10,k:=2,nt:=0,d:=525,code:=fun J=>.builtin "callable_iterator.__next__" ⟨[.ref (J 0)],[]⟩,pre:=fun J=>(itO (.ref (J 1)) (.str ⟨#[]⟩ ts) false::methO 143 (J 2)::strm p J 2 (.int n tn) pb [] e),res:=fun J Z=>.error (.ref (J 11)),post:=fun J Z=>(itO .none .none true::methO 143 (J 2)::strm p J 2 (.int n tn) pb [] e),new:=fun J Z=>[tupO [],stopO (J 10)] }
theorem gl143 (P:Params):∃ o fd,gl P 143=some o∧o.data=.func fd:=by
  have h:((gl P 143).map fun o=>match o.data with | .func _=>true | _=>false)=some true:=by kernel_rfl
  cases q:gl P 143 with
  | none=>rw [q] at h;cases h
  | some o =>
    rw [q] at h
    have h:(match o.data with | .func _=>true | _=>false)=true:=Option.some.inj h
    revert h
    split
    · rename_i fd hd;exact fun _=>⟨o,fd,rfl,hd⟩
    · intro h;cases h
theorem nodup10 {f:Nat→Nat}(h:[f 0,f 1,f 2,f 3,f 4,f 5,f 6,f 7,f 8,f 9].Nodup):f 0 ∉ [f 1,f 2,f 3,f 4,f 5,f 6,f 7,f 8,f 9]∧[f 1,f 2,f 3,f 4,f 5,f 6,f 7,f 8,f 9].Nodup:=List.nodup_cons.mp h
theorem has_keep {h h':Heap}:∀ {as:List Addr} {os:List Obj},Has h as os→(∀ b o,b∈as→h.get? b=some o→h'.get? b=some o)→Has h' as os
  | [],[],_,_=>rfl
  | [],_::_,e,_=>by cases e
  | _::_,[],e,_=>by cases e
  | a::as,o::os,e,k=>by
    obtain ⟨h1,h2⟩:=has_cons.mp e
    exact has_cons.mpr ⟨k a o mS h1,has_keep h2 fun b o hb=>k b o (mO hb)⟩
theorem ok_ciE (w:World){p:SP}{n:Int}{tn pb e ts:Nat}:(X_ciE p n tn pb e ts).Ok w:=by
  refine ok_of_con fun J=>?_
  refine con_builtin (b:=Builtin.«callable_iterator.__next__») (by decide +kernel) (entryFor_of_tree (by kernel_rfl)) fun A s R sA hg hpre hnd hout hR=>?_
  have hpre:Has s.heap [J 0,J 1,J 2,J 3,J 4,J 5,J 6,J 7,J 8,J 9] (itO (.ref (J 1)) (.str ⟨#[]⟩ ts) false::methO 143 (J 2)::strm p J 2 (.int n tn) pb [] e):=hpre
  have hnd:[J 0,J 1,J 2,J 3,J 4,J 5,J 6,J 7,J 8,J 9].Nodup:=hnd
  have hout:∀ a∈[J 0,J 1,J 2,J 3,J 4,J 5,J 6,J 7,J 8,J 9],gl w.params a=none∧183≤a:=hout
  have sA:Small A 525:=sA
  obtain ⟨h0,hpre1⟩:=has_cons.mp hpre
  obtain ⟨h1,hpre2⟩:=has_cons.mp hpre1
  obtain ⟨fo,fd,hfo,hfd⟩:=gl143 w.params
  obtain ⟨hn0,hn1⟩:=nodup10 hnd
  refine tree_ciE w A.in1 s (J 0) (J 1) 143 (J 2) ts _ _ fo fd hfd sA.1 h0 h1 (hg _ _ hfo) ?_
  refine codeAny_mono (ok_meE w (p:=p) (n:=n) (tn:=tn) (pb:=pb) (e:=e) (fun j=>J (j+1)) A.in1 s (show Small A.in1 532 from small_in1 sA (by decide)) hg hpre1 hn1 (fun a ha=>hout a (mO ha))) ?_
  rintro r s' ⟨μ,θ,E⟩
  have E1:Agree 9 μ (fun j=>J (j+1)):=E.agree
  have E5:Has s'.heap [J 1,J 2,J 3,J 4,J 5,J 6,J 7,J 8,J 9] (methO 143 (μ 1)::strm p μ 1 (.int n tn) pb [] e):=E.post
  have E9:After (gl w.params) [J 1,J 2,J 3,J 4,J 5,J 6,J 7,J 8,J 9] s s':=E.after
  have es:(methO 143 (μ 1)::strm p μ 1 (.int n tn) pb [] e)=(methO 143 (J 2)::strm p J 2 (.int n tn) pb [] e):=by
    unfold strm
    rw [E1 1 (by decide),E1 2 (by decide),E1 3 (by decide),E1 4 (by decide),E1 5 (by decide),E1 6 (by decide),E1 7 (by decide),E1 8 (by decide)]
  rw [es] at E5
  have k0:=E9.keep _ _ h0 hn0
  refine ⟨_,E.res,k0,(has_cons.mp E5).1,E9.glob _ _ hfo,?_⟩
  intro h' y ee a1 a2 a3 a4 a5 a6 a7 a8
  refine hR _ _ ⟨itO .none .none true::methO 143 (J 2)::strm p J 2 (.int n tn) pb [] e,[(y,tupO []),(ee,stopO y)],⟨[],rfl,rfl,rfl,rfl,rfl⟩,?_,?_,?_,?_⟩
  · show Has h' [J 0,J 1,J 2,J 3,J 4,J 5,J 6,J 7,J 8,J 9] _
    exact has_cons.mpr ⟨a1,has_keep E5 fun b o hb e=>a5 b o (fun z=>hn0 (z▸hb)) e⟩
  · intro q hq
    have sz:=E9.size
    rcases mQ hq with rfl | hq
    · exact ⟨a2,by show _≤y;omega⟩
    rcases mQ hq with rfl | hq
    · exact ⟨a3,by show _≤ee;omega⟩
    cases hq
  · simp [a4]
  · refine ⟨fun a o e=>a5 a o (fun z=>?_) (E9.glob a o e),fun b o e hb=>a5 b o (fun z=>hb (z▸List.mem_cons_self ..)) (E9.keep b o e fun z=>hb (mO z)),Nat.le_trans E9.size a8,E9.gens,E9.drawn,E9.os,E9.toks⟩
    have:=(hout _ mS).1
    rw [← z,e] at this;cases this
end
section
open PySem PySem.W PySem.W.X PySem.Spec PySem.Calls PyProof.Rows
set_option maxHeartbeats 400000
noncomputable def X_has (x:Str)(t:Nat)(y:Str)(u:Nat)(b:Bool):Spec:=X_val (.builtin "str.__contains__" ⟨[.str x t,.str y u],[]⟩) (.bool b)
theorem ok_has {w:World}{x:Str}{t c u:Nat}{b:Bool}(hb:decide (c∈x.cps.toList)=b):(X_has x t ⟨#[c]⟩ u b).Ok w:=ok_val (con_str_contains (by rw [PySem.StrLaws.found_one];exact hb))
noncomputable def frm (es:List DictEntry)(e:Nat):Obj:={ cls:=.type "frame",data:=.dict es.toArray e }
noncomputable abbrev sSelf:Str:=⟨#[115,101,108,102]⟩
noncomputable abbrev sToken:Str:=⟨#[116,111,107,101,110]⟩
noncomputable abbrev sFiter:Str:=⟨#[102,105,116,101,114]⟩
noncomputable abbrev sCh:Str:=⟨#[99,104]⟩
noncomputable def gtB:List Stmt:=clB 6 2
noncomputable def gtS:Scope:=clS 6 2
noncomputable def sGtQ:Str:=⟨#[95,110,101,116,114,99,108,101,120,46,103,101,116,95,116,111,107,101,110,46,60,108,111,99,97,108,115,62,46]⟩
noncomputable def gtE (fr:Nat):Env:={ scope:=gtS,locals:=fr,globals:=3,cells:=[],qual:=sGtQ,func:=some 150,code:=.ref 149,frame:=some fr,builtins:=0 }
noncomputable def gtFor:Expr×List Stmt:=match gtB.drop 3 with
  | .For t _ b _ _::_=>(t,b)
  | _=>(default,[])
noncomputable def gtFor2:Expr×List Stmt:=match gtFor.2.drop 1 with
  | .If _ _ o _::_=>(match o.drop 2 with
    | .For t _ b _ _::_=>(t,b)
    | _=>(default,[]))
  | _=>(default,[])
noncomputable abbrev Wd:=List (Nat×Nat)
noncomputable def wv (w:Wd)(rest:List Value):List Value:=match w with
  | []=>rest
  | (c,t)::w=>.str ⟨#[c+1]⟩ t::wv w rest
noncomputable def wAcc (s:Str)(w:Wd):Str:=match w with
  | []=>s
  | (c,_)::w=>wAcc (s++⟨#[c+1]⟩) w
def plainCh (c:Nat):Prop:=c+1≠10∧c+1≠9∧c+1≠13∧c+1≠32∧c+1≠92
theorem plain_ws {c:Nat}(h:plainCh c):decide (c+1∈sWs.cps.toList)=false:=by
  obtain ⟨h1,h2,h3,h4,h5⟩:=h
  simp only [decide_eq_false_iff_not]
  intro h
  have h:c+1∈[10,9,13,32]:=h
  simp at h
  omega
theorem plain_nl {c:Nat}(h:plainCh c):([c+1]==[10])=false:=by have:=h.1;simp;omega
theorem plain_bs {c:Nat}(h:plainCh c):([c+1]==[92])=false:=by have:=h.2.2.2.2;simp;omega
noncomputable def frGt (fh:Nat→Int)(ft:Nat→Nat)(self it:Nat)(s:Str)(st:Nat)(ch:Value)(fe:Nat):Obj :=
  frm [⟨fh 0,.str sSelf (ft 0),.ref self⟩,⟨fh 1,.str sToken (ft 1),.str s st⟩,⟨fh 2,.str sFiter (ft 2),.ref it⟩,⟨fh 3,.str sCh (ft 3),ch⟩] fe
end
section
open PySem PySem.W PySem.W.X PySem.Spec PySem.Calls
set_option maxHeartbeats 0
noncomputable def X_ci (p:SP)(n:Int)(tn pb e ts c tv:Nat)(vs:List Value):Spec:={ n0:=10,k:=0,nt:=0,d:=525,code:=fun J=>.builtin "callable_iterator.__next__" ⟨[.ref (J 0)],[]⟩,pre:=fun J=>(itO (.ref (J 1)) (.str ⟨#[]⟩ ts) false::methO 143 (J 2)::(strm p J 2 (.int n tn) pb (.str ⟨#[c+1]⟩ tv::vs) e)),res:=fun J Z=>.ok (.ret (.str ⟨#[c+1]⟩ tv)),post:=fun J Z=>(itO (.ref (J 1)) (.str ⟨#[]⟩ ts) false::methO 143 (J 2)::(strm p J 2 (.int n tn) pb vs (e+1))),new:=fun J Z=>[] }
noncomputable def ci_hs (b1 b2:Bool):List Nat:=[1,1,2,0,1,1]
noncomputable def ci_cs (p:SP)(n:Int)(tn pb e ts c tv:Nat)(vs:List Value)(b1 b2:Bool):List Ev:=[evX (fun J Z=>X_me p n tn pb e ⟨#[c+1]⟩ tv vs) [1,2,3,4,5,6,7,8,9] 0 10 0]
theorem run_ci (p:SP)(n:Int)(tn pb e ts c tv:Nat)(vs:List Value)(Pw:Params):∀ (b1 b2:Bool) (J Z:Nu),RD (X_ci p n tn pb e ts c tv vs) Pw b1 b2 17 (ci_hs b1 b2) (ci_cs p n tn pb e ts c tv vs b1 b2) [] [] J Z
  | true,b2,J,Z=>by kernel_rfl
  | false,b2,J,Z=>by kernel_rfl
theorem ok_ci (w:World){p:SP}{n:Int}{tn pb e ts c tv:Nat}{vs:List Value}(hl:vs.length<sizeLine)(hne:([c+1]==[10])=false):(X_ci p n tn pb e ts c tv vs).Ok w :=
  ok_of_run (hs:=ci_hs (row1 w) (row2 w)) (cs:=ci_cs p n tn pb e ts c tv vs (row1 w) (row2 w)) (ns:=[]) (ts:=[]) (vc (fun J Z=>ok_me w hl hne) rfl (va_nil)) rfl rfl (by decide) (show ∀ j∈([]:List Nat),10≤j by decide) (run_ci p n tn pb e ts c tv vs w.params (row1 w) (row2 w))
noncomputable def X_ciN (p:SP)(n:Int)(tn pb e ts tv:Nat)(vs:List Value):Spec:={ n0:=10,k:=0,nt:=1,d:=525,code:=fun J=>.builtin "callable_iterator.__next__" ⟨[.ref (J 0)],[]⟩,pre:=fun J=>(itO (.ref (J 1)) (.str ⟨#[]⟩ ts) false::methO 143 (J 2)::(strm p J 2 (.int n tn) pb (.str ⟨#[10]⟩ tv::vs) e)),res:=fun J Z=>.ok (.ret (.str ⟨#[10]⟩ tv)),post:=fun J Z=>(itO (.ref (J 1)) (.str ⟨#[]⟩ ts) false::methO 143 (J 2)::(strm p J 2 (.int (n+1) (Z 0)) pb vs (e+1))),new:=fun J Z=>[] }
noncomputable def ciN_hs (b1 b2:Bool):List Nat:=[1,1,2,0,1,1]
noncomputable def ciN_cs (p:SP)(n:Int)(tn pb e ts tv:Nat)(vs:List Value)(b1 b2:Bool):List Ev:=[evX (fun J Z=>X_meN p n tn pb e tv vs) [1,2,3,4,5,6,7,8,9] 0 10 0]
theorem run_ciN (p:SP)(n:Int)(tn pb e ts tv:Nat)(vs:List Value)(Pw:Params):∀ (b1 b2:Bool) (J Z:Nu),RD (X_ciN p n tn pb e ts tv vs) Pw b1 b2 17 (ciN_hs b1 b2) (ciN_cs p n tn pb e ts tv vs b1 b2) [] [0] J Z
  | true,b2,J,Z=>by kernel_rfl
  | false,b2,J,Z=>by kernel_rfl
theorem ok_ciN (w:World){p:SP}{n:Int}{tn pb e ts tv:Nat}{vs:List Value}(hl:vs.length<sizeLine):(X_ciN p n tn pb e ts tv vs).Ok w :=
  ok_of_run (hs:=ciN_hs (row1 w) (row2 w)) (cs:=ciN_cs p n tn pb e ts tv vs (row1 w) (row2 w)) (ns:=[]) (ts:=[0]) (vc (fun J Z=>ok_meN w hl) rfl (va_nil)) rfl rfl (by decide) (show ∀ j∈([]:List Nat),10≤j by decide) (run_ciN p n tn pb e ts tv vs w.params (row1 w) (row2 w))
end
section
open PySem PySem.W PySem.W.X PySem.Spec PySem.Calls
theorem ok_weak {w:World}{X Y:Spec}(h:X.Ok w)(h0:Y.n0=X.n0)(hk:Y.k=X.k)(hd:Y.d≤X.d)(hc:Y.code=X.code)(hp:Y.pre=X.pre)
    (hq:∀ μ θ,∃ θ',(∀ j,Y.nt≤j→θ' j=0)∧X.res μ θ=Y.res μ θ'∧X.post μ θ=Y.post μ θ'∧X.new μ θ=Y.new μ θ'):Y.Ok w:=by
  obtain ⟨n0,k,nt,d,code,pre,res,post,new⟩:=Y
  dsimp only at h0 hk hd hc hp hq
  subst h0 hk hc hp
  intro J A s sA hg hpre hnd hout
  refine codeAny_mono (h J A s ⟨sA.1,Nat.le_trans sA.2.1 hd,Nat.le_trans sA.2.2 (Nat.mul_le_mul_left _ hd)⟩ hg hpre hnd hout) ?_
  rintro r s' ⟨μ,θ,E⟩
  obtain ⟨θ',z1,z2,z3,z4⟩:=hq μ θ
  exact ⟨μ,θ',E.agree,E.nuZ,z1,E.res.trans z2,by show Has _ _ (post μ θ');rw [← z3];exact E.post,by show Has _ _ (new μ θ');rw [← z4];exact E.new,E.fresh,E.inj,E.after⟩
noncomputable def one (x:Nat):Nu:=fun j=>match j with
  | 0=>x
  | _+1=>0
noncomputable def wE (e:Nat)(w:Wd):Nat:=match w with
  | []=>e+1
  | _::w=>wE (e+1) w
noncomputable def wL (ch:Value)(w:Wd):Value:=match w with
  | []=>ch
  | (c,t)::w=>wL (.str ⟨#[c+1]⟩ t) w
end
section
open PySem PySem.W PySem.W.X PySem.Spec PySem.Calls
set_option maxHeartbeats 0
noncomputable def X_in0 (p:SP)(n:Int)(tn pb e ts:Nat)(fh:Nat→Int)(ft:Nat→Nat)(fe:Nat)(s0:Str)(st:Nat)(ch:Value)(tc tt:Nat)(r:List Value):Spec:={ n0:=11,k:=0,nt:=0,d:=516,code:=fun J=>.forLoop gtFor2.1 (.ref (J 2)) gtFor2.2 [] (gtE (J 0)),pre:=fun J=>(frGt fh ft (J 3) (J 2) s0 st ch fe::methO 143 (J 3)::itO (.ref (J 1)) (.str ⟨#[]⟩ ts) false::(strm p J 3 (.int n tn) pb ((.str ⟨#[tc+1]⟩ tt)::r) e)),res:=fun J Z=>.ok (.ret (.str s0 st)),post:=fun J Z=>(frGt fh ft (J 3) (J 2) s0 st (.str ⟨#[tc+1]⟩ tt) fe::methO 143 (J 3)::itO (.ref (J 1)) (.str ⟨#[]⟩ ts) false::(strm p J 3 (.int n tn) pb r (e+1))),new:=fun J Z=>[] }
noncomputable def in0_hs (b1 b2:Bool):List Nat:=[3,3,1,1,1,1,4,0,0,0,4,0,0,0,4,4,0,5,1]
noncomputable def in0_cs (Pw:Params)(p:SP)(n:Int)(tn pb e ts:Nat)(fh:Nat→Int)(ft:Nat→Nat)(fe:Nat)(s0:Str)(st:Nat)(ch:Value)(tc tt:Nat)(r:List Value)(b1 b2:Bool):List Ev:=[evX (fun J Z=>X_ci p n tn pb e ts tc tt r) [2,1,3,4,5,6,7,8,9,10] 1 11 0,evX (fun J Z=>X_has sWs (p.tf 3) ⟨#[tc+1]⟩ tt true) [] 2 11 2]
theorem run_in0 (p:SP)(n:Int)(tn pb e ts:Nat)(fh:Nat→Int)(ft:Nat→Nat)(fe:Nat)(s0:Str)(st:Nat)(ch:Value)(tc tt:Nat)(r:List Value)(Pw:Params):∀ (b1 b2:Bool) (J Z:Nu),RD (X_in0 p n tn pb e ts fh ft fe s0 st ch tc tt r) Pw b1 b2 46 (in0_hs b1 b2) (in0_cs Pw p n tn pb e ts fh ft fe s0 st ch tc tt r b1 b2) [] [] J Z
  | true,b2,J,Z=>by kernel_rfl
  | false,b2,J,Z=>by kernel_rfl
theorem ok_in0 (w:World){p:SP}{n:Int}{tn pb e ts:Nat}{fh:Nat→Int}{ft:Nat→Nat}{fe:Nat}{s0:Str}{st:Nat}{ch:Value}{tc tt:Nat}{r:List Value}(hl:r.length<sizeLine)(h1:([tc+1]==[10])=false)(h2:decide (tc+1∈sWs.cps.toList)=true):(X_in0 p n tn pb e ts fh ft fe s0 st ch tc tt r).Ok w :=
  ok_of_run (hs:=in0_hs (row1 w) (row2 w)) (cs:=in0_cs w.params p n tn pb e ts fh ft fe s0 st ch tc tt r (row1 w) (row2 w)) (ns:=[]) (ts:=[]) (vc (fun J Z=>ok_ci w hl h1) rfl (vc (fun J Z=>ok_has h2) rfl (va_nil))) rfl rfl (by decide) (show ∀ j∈([]:List Nat),11≤j by decide) (run_in0 p n tn pb e ts fh ft fe s0 st ch tc tt r w.params (row1 w) (row2 w))
noncomputable def X_inS (p:SP)(n:Int)(tn pb e ts:Nat)(fh:Nat→Int)(ft:Nat→Nat)(fe:Nat)(s0:Str)(st:Nat)(ch:Value)(w:Wd)(tc tt:Nat)(r:List Value):Spec:={ n0:=11,k:=0,nt:=1,d:=516,code:=fun J=>.forLoop gtFor2.1 (.ref (J 2)) gtFor2.2 [] (gtE (J 0)),pre:=fun J=>(frGt fh ft (J 3) (J 2) s0 st ch fe::methO 143 (J 3)::itO (.ref (J 1)) (.str ⟨#[]⟩ ts) false::(strm p J 3 (.int n tn) pb (wv w ((.str ⟨#[tc+1]⟩ tt)::r)) e)),res:=fun J Z=>.ok (.ret (.str (wAcc s0 w) (Z 0))),post:=fun J Z=>(frGt fh ft (J 3) (J 2) (wAcc s0 w) (Z 0) (.str ⟨#[tc+1]⟩ tt) fe::methO 143 (J 3)::itO (.ref (J 1)) (.str ⟨#[]⟩ ts) false::(strm p J 3 (.int n tn) pb r (wE e w))),new:=fun J Z=>[] }
noncomputable def wF (e:Nat)(w:Wd):Nat:=match w with
  | []=>e
  | _::w=>wF (e+1) w
noncomputable def X_inE (p:SP)(n:Int)(tn pb e ts:Nat)(fh:Nat→Int)(ft:Nat→Nat)(fe:Nat)(s0:Str)(st:Nat)(ch:Value)(w:Wd):Spec:={ n0:=11,k:=0,nt:=1,d:=516,code:=fun J=>.forLoop gtFor2.1 (.ref (J 2)) gtFor2.2 [] (gtE (J 0)),pre:=fun J=>(frGt fh ft (J 3) (J 2) s0 st ch fe::methO 143 (J 3)::itO (.ref (J 1)) (.str ⟨#[]⟩ ts) false::(strm p J 3 (.int n tn) pb (wv w []) e)),res:=fun J Z=>.ok .next,post:=fun J Z=>(frGt fh ft (J 3) (J 2) (wAcc s0 w) (Z 0) (wL ch w) fe::methO 143 (J 3)::itO .none .none true::(strm p J 3 (.int n tn) pb [] (wF e w))),new:=fun J Z=>[] }
noncomputable def X_inE0 (p:SP)(n:Int)(tn pb e ts:Nat)(fh:Nat→Int)(ft:Nat→Nat)(fe:Nat)(s0:Str)(st:Nat)(ch:Value):Spec:={ n0:=11,k:=0,nt:=0,d:=516,code:=fun J=>.forLoop gtFor2.1 (.ref (J 2)) gtFor2.2 [] (gtE (J 0)),pre:=fun J=>(frGt fh ft (J 3) (J 2) s0 st ch fe::methO 143 (J 3)::itO (.ref (J 1)) (.str ⟨#[]⟩ ts) false::(strm p J 3 (.int n tn) pb [] e)),res:=fun J Z=>.ok .next,post:=fun J Z=>(frGt fh ft (J 3) (J 2) s0 st ch fe::methO 143 (J 3)::itO .none .none true::(strm p J 3 (.int n tn) pb [] e)),new:=fun J Z=>[] }
noncomputable def inE0_hs (b1 b2:Bool):List Nat:=[3,3,13]
noncomputable def inE0_cs (Pw:Params)(p:SP)(n:Int)(tn pb e ts:Nat)(fh:Nat→Int)(ft:Nat→Nat)(fe:Nat)(s0:Str)(st:Nat)(ch:Value)(b1 b2:Bool):List Ev:=[evX (fun J Z=>X_ciE p n tn pb e ts) [2,1,3,4,5,6,7,8,9,10] 1 11 0]
theorem run_inE0 (p:SP)(n:Int)(tn pb e ts:Nat)(fh:Nat→Int)(ft:Nat→Nat)(fe:Nat)(s0:Str)(st:Nat)(ch:Value)(Pw:Params):∀ (b1 b2:Bool) (J Z:Nu),RD (X_inE0 p n tn pb e ts fh ft fe s0 st ch) Pw b1 b2 13 (inE0_hs b1 b2) (inE0_cs Pw p n tn pb e ts fh ft fe s0 st ch b1 b2) [] [] J Z
  | true,b2,J,Z=>by kernel_rfl
  | false,b2,J,Z=>by kernel_rfl
theorem ok_inE0 (w:World){p:SP}{n:Int}{tn pb e ts:Nat}{fh:Nat→Int}{ft:Nat→Nat}{fe:Nat}{s0:Str}{st:Nat}{ch:Value}  : (X_inE0 p n tn pb e ts fh ft fe s0 st ch).Ok w :=
  ok_of_run (hs:=inE0_hs (row1 w) (row2 w)) (cs:=inE0_cs w.params p n tn pb e ts fh ft fe s0 st ch (row1 w) (row2 w)) (ns:=[]) (ts:=[]) (vc (fun J Z=>ok_ciE w) rfl (va_nil)) rfl rfl (by decide) (show ∀ j∈([]:List Nat),11≤j by decide) (run_inE0 p n tn pb e ts fh ft fe s0 st ch w.params (row1 w) (row2 w))
noncomputable def X_inS1 (p:SP)(n:Int)(tn pb e ts:Nat)(fh:Nat→Int)(ft:Nat→Nat)(fe:Nat)(s0:Str)(st:Nat)(ch:Value)(c tv:Nat)(u:Wd)(tc tt:Nat)(r:List Value):Spec:={ n0:=11,k:=0,nt:=1,d:=516,code:=fun J=>.forLoop gtFor2.1 (.ref (J 2)) gtFor2.2 [] (gtE (J 0)),pre:=fun J=>(frGt fh ft (J 3) (J 2) s0 st ch fe::methO 143 (J 3)::itO (.ref (J 1)) (.str ⟨#[]⟩ ts) false::(strm p J 3 (.int n tn) pb (wv ((c,tv)::u) ((.str ⟨#[tc+1]⟩ tt)::r)) e)),res:=fun J Z=>.ok (.ret (.str (wAcc s0 ((c,tv)::u)) (Z 0))),post:=fun J Z=>(frGt fh ft (J 3) (J 2) (wAcc s0 ((c,tv)::u)) (Z 0) (.str ⟨#[tc+1]⟩ tt) fe::methO 143 (J 3)::itO (.ref (J 1)) (.str ⟨#[]⟩ ts) false::(strm p J 3 (.int n tn) pb r (wE e ((c,tv)::u)))),new:=fun J Z=>[] }
noncomputable def inS1_hs (b1 b2:Bool):List Nat:=[3,3,1,1,1,1,4,0,0,0,4,0,0,0,4,4,0,5,1,1,1,1,1]
noncomputable def inS1_cs (Pw:Params)(p:SP)(n:Int)(tn pb e ts:Nat)(fh:Nat→Int)(ft:Nat→Nat)(fe:Nat)(s0:Str)(st:Nat)(ch:Value)(c tv:Nat)(u:Wd)(tc tt:Nat)(r:List Value)(b1 b2:Bool):List Ev:=[evX (fun J Z=>X_ci p n tn pb e ts c tv (wv u ((.str ⟨#[tc+1]⟩ tt)::r))) [2,1,3,4,5,6,7,8,9,10] 1 11 0,evX (fun J Z=>X_has sWs (p.tf 3) ⟨#[c+1]⟩ tv false) [] 2 11 2,evX (fun J Z=>X_eq ⟨#[c+1]⟩ tv ⟨#[92]⟩ (Z 2) false) [] 1 11 3,evX (fun J Z=>X_add s0 st ⟨#[c+1]⟩ tv) [] 1 11 3,evX (fun J Z=>X_inS p n tn pb (e+1) ts fh ft fe (s0++⟨#[c+1]⟩) (Z 3) (.str ⟨#[c+1]⟩ tv) u tc tt r) [0,1,2,3,4,5,6,7,8,9,10] 0 11 5]
theorem run_inS1 (p:SP)(n:Int)(tn pb e ts:Nat)(fh:Nat→Int)(ft:Nat→Nat)(fe:Nat)(s0:Str)(st:Nat)(ch:Value)(c tv:Nat)(u:Wd)(tc tt:Nat)(r:List Value)(Pw:Params):∀ (b1 b2:Bool) (J Z:Nu),RD (X_inS1 p n tn pb e ts fh ft fe s0 st ch c tv u tc tt r) Pw b1 b2 66 (inS1_hs b1 b2) (inS1_cs Pw p n tn pb e ts fh ft fe s0 st ch c tv u tc tt r b1 b2) [] [5] J Z
  | true,b2,J,Z=>by kernel_rfl
  | false,b2,J,Z=>by kernel_rfl
theorem ok_inS1 (w:World){p:SP}{n:Int}{tn pb e ts:Nat}{fh:Nat→Int}{ft:Nat→Nat}{fe:Nat}{s0:Str}{st:Nat}{ch:Value}{c tv:Nat}{u:Wd}{tc tt:Nat}{r:List Value}(hc:plainCh c)(hs:s0.length≠0)(hz:(s0++⟨#[c+1]⟩).length≤sizeLine)(hl:(wv u ((.str ⟨#[tc+1]⟩ tt)::r)).length<sizeLine)(ih:∀ st,(X_inS p n tn pb (e+1) ts fh ft fe (s0++⟨#[c+1]⟩) st (.str ⟨#[c+1]⟩ tv) u tc tt r).Ok w):(X_inS1 p n tn pb e ts fh ft fe s0 st ch c tv u tc tt r).Ok w :=
  ok_of_run (hs:=inS1_hs (row1 w) (row2 w)) (cs:=inS1_cs w.params p n tn pb e ts fh ft fe s0 st ch c tv u tc tt r (row1 w) (row2 w)) (ns:=[]) (ts:=[5]) (vc (fun J Z=>ok_ci w hl (plain_nl hc)) rfl (vc (fun J Z=>ok_has (plain_ws hc)) rfl (vc (fun J Z=>ok_eq (plain_bs hc)) rfl (vc (fun J Z=>ok_add hs Nat.one_ne_zero hz) rfl (vc (fun J Z=>ih _) rfl (va_nil)))))) rfl rfl (by decide) (show ∀ j∈([]:List Nat),11≤j by decide) (run_inS1 p n tn pb e ts fh ft fe s0 st ch c tv u tc tt r w.params (row1 w) (row2 w))
noncomputable def X_inE1 (p:SP)(n:Int)(tn pb e ts:Nat)(fh:Nat→Int)(ft:Nat→Nat)(fe:Nat)(s0:Str)(st:Nat)(ch:Value)(c tv:Nat)(u:Wd):Spec:={ n0:=11,k:=0,nt:=1,d:=516,code:=fun J=>.forLoop gtFor2.1 (.ref (J 2)) gtFor2.2 [] (gtE (J 0)),pre:=fun J=>(frGt fh ft (J 3) (J 2) s0 st ch fe::methO 143 (J 3)::itO (.ref (J 1)) (.str ⟨#[]⟩ ts) false::(strm p J 3 (.int n tn) pb (wv ((c,tv)::u) []) e)),res:=fun J Z=>.ok .next,post:=fun J Z=>(frGt fh ft (J 3) (J 2) (wAcc s0 ((c,tv)::u)) (Z 0) (wL ch ((c,tv)::u)) fe::methO 143 (J 3)::itO .none .none true::(strm p J 3 (.int n tn) pb [] (wF e ((c,tv)::u)))),new:=fun J Z=>[] }
noncomputable def inE1_hs (b1 b2:Bool):List Nat:=[3,3,1,1,1,1,4,0,0,0,4,0,0,0,4,4,0,5,1,1,1,1,1]
noncomputable def inE1_cs (Pw:Params)(p:SP)(n:Int)(tn pb e ts:Nat)(fh:Nat→Int)(ft:Nat→Nat)(fe:Nat)(s0:Str)(st:Nat)(ch:Value)(c tv:Nat)(u:Wd)(b1 b2:Bool):List Ev:=[evX (fun J Z=>X_ci p n tn pb e ts c tv (wv u [])) [2,1,3,4,5,6,7,8,9,10] 1 11 0,evX (fun J Z=>X_has sWs (p.tf 3) ⟨#[c+1]⟩ tv false) [] 2 11 2,evX (fun J Z=>X_eq ⟨#[c+1]⟩ tv ⟨#[92]⟩ (Z 2) false) [] 1 11 3,evX (fun J Z=>X_add s0 st ⟨#[c+1]⟩ tv) [] 1 11 3,evX (fun J Z=>X_inE p n tn pb (e+1) ts fh ft fe (s0++⟨#[c+1]⟩) (Z 3) (.str ⟨#[c+1]⟩ tv) u ) [0,1,2,3,4,5,6,7,8,9,10] 0 11 5]
theorem run_inE1 (p:SP)(n:Int)(tn pb e ts:Nat)(fh:Nat→Int)(ft:Nat→Nat)(fe:Nat)(s0:Str)(st:Nat)(ch:Value)(c tv:Nat)(u:Wd)(Pw:Params):∀ (b1 b2:Bool) (J Z:Nu),RD (X_inE1 p n tn pb e ts fh ft fe s0 st ch c tv u) Pw b1 b2 66 (inE1_hs b1 b2) (inE1_cs Pw p n tn pb e ts fh ft fe s0 st ch c tv u b1 b2) [] [5] J Z
  | true,b2,J,Z=>by kernel_rfl
  | false,b2,J,Z=>by kernel_rfl
theorem ok_inE1 (w:World){p:SP}{n:Int}{tn pb e ts:Nat}{fh:Nat→Int}{ft:Nat→Nat}{fe:Nat}{s0:Str}{st:Nat}{ch:Value}{c tv:Nat}{u:Wd}(hc:plainCh c)(hs:s0.length≠0)(hz:(s0++⟨#[c+1]⟩).length≤sizeLine)(hl:(wv u []).length<sizeLine)(ih:∀ st,(X_inE p n tn pb (e+1) ts fh ft fe (s0++⟨#[c+1]⟩) st (.str ⟨#[c+1]⟩ tv) u).Ok w):(X_inE1 p n tn pb e ts fh ft fe s0 st ch c tv u).Ok w :=
  ok_of_run (hs:=inE1_hs (row1 w) (row2 w)) (cs:=inE1_cs w.params p n tn pb e ts fh ft fe s0 st ch c tv u (row1 w) (row2 w)) (ns:=[]) (ts:=[5]) (vc (fun J Z=>ok_ci w hl (plain_nl hc)) rfl (vc (fun J Z=>ok_has (plain_ws hc)) rfl (vc (fun J Z=>ok_eq (plain_bs hc)) rfl (vc (fun J Z=>ok_add hs Nat.one_ne_zero hz) rfl (vc (fun J Z=>ih _) rfl (va_nil)))))) rfl rfl (by decide) (show ∀ j∈([]:List Nat),11≤j by decide) (run_inE1 p n tn pb e ts fh ft fe s0 st ch c tv u w.params (row1 w) (row2 w))
end
section
open PySem PySem.W PySem.W.X PySem.Spec PySem.Calls
theorem wv_len:∀ (w:Wd) (r:List Value),(wv w r).length=w.length+r.length
  | [],r=>by simp [wv]
  | (c,t)::w,r=>by rw [wv,List.length_cons,wv_len w r,List.length_cons];omega
theorem str_len_add (x:Str)(c:Nat):(x++(⟨#[c]⟩:Str)).length=x.length+1:=by
  show (x.cps++#[c]).size=x.cps.size+1
  rw [Array.size_append];rfl
def Plain (w:Wd):Prop:=∀ x∈w,plainCh x.1
theorem ok_inS (wd:World){p:SP}{n:Int}{tn pb ts:Nat}{fh:Nat→Int}{ft:Nat→Nat}{fe tc tt:Nat}{r:List Value}(h1:([tc+1]==[10])=false)(h2:decide (tc+1∈sWs.cps.toList)=true) :
    ∀ (w:Wd) (s0:Str) (st:Nat) (ch:Value) (e:Nat),Plain w→s0.length≠0→s0.length+w.length≤sizeLine→w.length+1+r.length≤sizeLine→(X_inS p n tn pb e ts fh ft fe s0 st ch w tc tt r).Ok wd
  | [],s0,st,ch,e,_,hs,hz,hl=>by
    refine ok_weak (ok_in0 wd (p:=p) (n:=n) (tn:=tn) (pb:=pb) (e:=e) (ts:=ts) (fh:=fh) (ft:=ft) (fe:=fe) (s0:=s0) (st:=st) (ch:=ch) (tc:=tc) (tt:=tt) (r:=r) (by simp at hl;omega) h1 h2) rfl rfl (Nat.le_refl _) rfl rfl fun μ θ=>⟨one st,?_,rfl,rfl,rfl⟩
    intro j hj
    match j,hj with
    | j+1,_=>rfl
  | (c,t)::w,s0,st,ch,e,hp,hs,hz,hl=>by
    have hz':(s0++(⟨#[c+1]⟩:Str)).length≤sizeLine:=by rw [str_len_add];simp at hz;omega
    refine ok_inS1 wd (hp (c,t) mS) hs hz' (by rw [wv_len];simp at hl ⊢;omega) fun st'=>?_
    exact ok_inS wd h1 h2 w _ _ _ _ (fun x hx=>hp x (mO hx)) (by rw [str_len_add];omega) (by rw [str_len_add];simp at hz;omega) (by simp at hl;omega)
theorem ok_inE (wd:World){p:SP}{n:Int}{tn pb ts:Nat}{fh:Nat→Int}{ft:Nat→Nat}{fe:Nat} :
    ∀ (w:Wd) (s0:Str) (st:Nat) (ch:Value) (e:Nat),Plain w→s0.length≠0→s0.length+w.length≤sizeLine→(X_inE p n tn pb e ts fh ft fe s0 st ch w).Ok wd
  | [],s0,st,ch,e,_,hs,hz=>by
    refine ok_weak (ok_inE0 wd (p:=p) (n:=n) (tn:=tn) (pb:=pb) (e:=e) (ts:=ts) (fh:=fh) (ft:=ft) (fe:=fe) (s0:=s0) (st:=st) (ch:=ch)) rfl rfl (Nat.le_refl _) rfl rfl fun μ θ=>⟨one st,?_,rfl,rfl,rfl⟩
    intro j hj
    match j,hj with
    | j+1,_=>rfl
  | (c,t)::w,s0,st,ch,e,hp,hs,hz=>by
    have hz':(s0++(⟨#[c+1]⟩:Str)).length≤sizeLine:=by rw [str_len_add];simp at hz;omega
    refine ok_inE1 wd (hp (c,t) mS) hs hz' (by rw [wv_len];simp at hz ⊢;omega) fun st'=>?_
    exact ok_inE wd w _ _ _ _ (fun x hx=>hp x (mO hx)) (by rw [str_len_add];omega) (by rw [str_len_add];simp at hz;omega)
noncomputable def hsh (P:Params)(s:Str):Int:=reduceHash (P.strHash s.cps)
noncomputable def pick {α:Type}(l:List α)(d:α):Nat→α:=fun j=>match l,j with
  | [],_=>d
  | x::_,0=>x
  | _::l,j+1=>pick l d j
noncomputable def hGt (P:Params):Nat→Int:=pick [hsh P sSelf,hsh P sToken,hsh P sFiter,hsh P sCh] 0
end
section
open PySem PySem.W PySem.W.X PySem.Spec PySem.Calls
set_option maxHeartbeats 0
noncomputable def X_gt0 (p:SP)(n:Int)(tn e e3:Nat):Spec:={ n0:=9,k:=0,nt:=1,d:=500,code:=fun J=>.call (.ref 150) ⟨[.ref (J 0)],[]⟩,pre:=fun J=>(strm p J 0 (.int n tn) (J 8) [] e++[lst [] e3]),res:=fun J Z=>.ok (.ret (.str ⟨#[]⟩ (Z 0))),post:=fun J Z=>(strm p J 0 (.int n tn) (J 8) [] e++[lst [] e3]),new:=fun J Z=>[] }
noncomputable def gt0_hs (b1 b2:Bool):List Nat:=[0,0,10,10,1,10,1,0,0,0,1,0,0,0,1,1,0,2,9,9,10,10,0,0,10,1,0,0,0,1,0,0,0,0,0,0,1,1,0,2,0,0,0,0,11,10,10,10,12,12,12,12,12,12,14,10]
noncomputable def gt0_cs (Pw:Params)(p:SP)(n:Int)(tn e e3:Nat)(b1 b2:Bool):List Ev:=[evX (fun J Z=>X_lenL [] e3) [8] 2 10 2,evX (fun J Z=>X_ciE p n tn (J 8) e (Z 6)) [11,10,0,1,2,3,4,5,6,7] 9 12 8]
theorem run_gt0 (p:SP)(n:Int)(tn e e3:Nat)(Pw:Params):∀ (b1 b2:Bool) (J Z:Nu),RD (X_gt0 p n tn e e3) Pw b1 b2 123 (gt0_hs b1 b2) (gt0_cs Pw p n tn e e3 b1 b2) [] [3] J Z
  | true,b2,J,Z=>by kernel_rfl
  | false,b2,J,Z=>by kernel_rfl
theorem ok_gt0 (w:World){p:SP}{n:Int}{tn e e3:Nat}  : (X_gt0 p n tn e e3).Ok w :=
  ok_of_run (hs:=gt0_hs (row1 w) (row2 w)) (cs:=gt0_cs w.params p n tn e e3 (row1 w) (row2 w)) (ns:=[]) (ts:=[3]) (vc (fun J Z=>ok_lenL (Nat.zero_le _)) rfl (vc (fun J Z=>ok_ciE w) rfl (va_nil))) rfl rfl (by decide) (show ∀ j∈([]:List Nat),9≤j by decide) (run_gt0 p n tn e e3 w.params (row1 w) (row2 w))
noncomputable def X_gtS (p:SP)(n:Int)(tn e e3 c tv:Nat)(u:Wd)(tc tt:Nat)(r:List Value):Spec:={ n0:=9,k:=0,nt:=1,d:=500,code:=fun J=>.call (.ref 150) ⟨[.ref (J 0)],[]⟩,pre:=fun J=>(strm p J 0 (.int n tn) (J 8) ((.str ⟨#[c+1]⟩ tv)::(wv u ((.str ⟨#[tc+1]⟩ tt)::r))) e++[lst [] e3]),res:=fun J Z=>.ok (.ret (.str (wAcc ⟨#[c+1]⟩ u) (Z 0))),post:=fun J Z=>(strm p J 0 (.int n tn) (J 8) r (wE (e+1) u)++[lst [] e3]),new:=fun J Z=>[] }
noncomputable def gtS_hs (b1 b2:Bool):List Nat:=[0,0,10,10,1,10,1,0,0,0,1,0,0,0,1,1,0,2,9,9,10,10,0,0,10,1,0,0,0,1,0,0,0,0,0,0,1,1,0,2,0,0,0,0,11,10,10,10,12,12,12,12,12,12,10,10,10,10,1,0,0,0,1,0,0,0,1,1,0,2,10,10,10,10,10,10,10,12,12,12,12]
noncomputable def gtS_cs (Pw:Params)(p:SP)(n:Int)(tn e e3 c tv:Nat)(u:Wd)(tc tt:Nat)(r:List Value)(b1 b2:Bool):List Ev:=[evX (fun J Z=>X_lenL [] e3) [8] 2 10 2,evX (fun J Z=>X_ci p n tn (J 8) e (Z 6) c tv (wv u ((.str ⟨#[tc+1]⟩ tt)::r))) [11,10,0,1,2,3,4,5,6,7] 9 12 8,evX (fun J Z=>X_has sWs (p.tf 3) ⟨#[c+1]⟩ tv false) [] 2 12 10,evX (fun J Z=>X_eq ⟨#[c+1]⟩ tv ⟨#[34]⟩ (Z 10) false) [] 1 12 11,evX (fun J Z=>X_eq ⟨#[c+1]⟩ tv ⟨#[92]⟩ (Z 11) false) [] 1 12 12,evX (fun J Z=>X_add0 ⟨#[]⟩ (Z 3) ⟨#[c+1]⟩ tv) [] 1 12 12,evX (fun J Z=>X_inS p n tn (J 8) (e+1) (Z 6) (hGt Pw) (pick [Z 0,Z 4,Z 7,Z 8] 0) 4 ⟨#[c+1]⟩ tv (.str ⟨#[c+1]⟩ tv) u tc tt r) [9,10,11,0,1,2,3,4,5,6,7] 2 12 13]
theorem run_gtS (p:SP)(n:Int)(tn e e3 c tv:Nat)(u:Wd)(tc tt:Nat)(r:List Value)(Pw:Params):∀ (b1 b2:Bool) (J Z:Nu),RD (X_gtS p n tn e e3 c tv u tc tt r) Pw b1 b2 194 (gtS_hs b1 b2) (gtS_cs Pw p n tn e e3 c tv u tc tt r b1 b2) [] [13] J Z
  | true,b2,J,Z=>by kernel_rfl
  | false,b2,J,Z=>by kernel_rfl
theorem ok_gtS (w:World){p:SP}{n:Int}{tn e e3 c tv:Nat}{u:Wd}{tc tt:Nat}{r:List Value}(hc:plainCh c)(hq:([c+1]==[34])=false)(hp:Plain u)(hz:1+u.length≤sizeLine)(h1:([tc+1]==[10])=false)(h2:decide (tc+1∈sWs.cps.toList)=true)(hl:(wv u (.str ⟨#[tc+1]⟩ tt::r)).length<sizeLine)(hl2:u.length+1+r.length≤sizeLine):(X_gtS p n tn e e3 c tv u tc tt r).Ok w :=
  ok_of_run (hs:=gtS_hs (row1 w) (row2 w)) (cs:=gtS_cs w.params p n tn e e3 c tv u tc tt r (row1 w) (row2 w)) (ns:=[]) (ts:=[13]) (vc (fun J Z=>ok_lenL (Nat.zero_le _)) rfl (vc (fun J Z=>ok_ci w hl (plain_nl hc)) rfl (vc (fun J Z=>ok_has (plain_ws hc)) rfl (vc (fun J Z=>ok_eq hq) rfl (vc (fun J Z=>ok_eq (plain_bs hc)) rfl (vc (fun J Z=>ok_add0 rfl) rfl (vc (fun J Z=>ok_inS w h1 h2 _ _ _ _ _ hp Nat.one_ne_zero hz hl2) rfl (va_nil)))))))) rfl rfl (by decide) (show ∀ j∈([]:List Nat),9≤j by decide) (run_gtS p n tn e e3 c tv u tc tt r w.params (row1 w) (row2 w))
noncomputable def X_gtE (p:SP)(n:Int)(tn e e3 c tv:Nat)(u:Wd):Spec:={ n0:=9,k:=0,nt:=1,d:=500,code:=fun J=>.call (.ref 150) ⟨[.ref (J 0)],[]⟩,pre:=fun J=>(strm p J 0 (.int n tn) (J 8) ((.str ⟨#[c+1]⟩ tv)::(wv u [])) e++[lst [] e3]),res:=fun J Z=>.ok (.ret (.str (wAcc ⟨#[c+1]⟩ u) (Z 0))),post:=fun J Z=>(strm p J 0 (.int n tn) (J 8) [] (wF (e+1) u)++[lst [] e3]),new:=fun J Z=>[] }
noncomputable def gtE_hs (b1 b2:Bool):List Nat:=[0,0,10,10,1,10,1,0,0,0,1,0,0,0,1,1,0,2,9,9,10,10,0,0,10,1,0,0,0,1,0,0,0,0,0,0,1,1,0,2,0,0,0,0,11,10,10,10,12,12,12,12,12,12,10,10,10,10,1,0,0,0,1,0,0,0,1,1,0,2,10,10,10,10,10,10,10,12,12,12,12,12,12,12,14,10]
noncomputable def gtE_cs (Pw:Params)(p:SP)(n:Int)(tn e e3 c tv:Nat)(u:Wd)(b1 b2:Bool):List Ev:=[evX (fun J Z=>X_lenL [] e3) [8] 2 10 2,evX (fun J Z=>X_ci p n tn (J 8) e (Z 6) c tv (wv u [])) [11,10,0,1,2,3,4,5,6,7] 9 12 8,evX (fun J Z=>X_has sWs (p.tf 3) ⟨#[c+1]⟩ tv false) [] 2 12 10,evX (fun J Z=>X_eq ⟨#[c+1]⟩ tv ⟨#[34]⟩ (Z 10) false) [] 1 12 11,evX (fun J Z=>X_eq ⟨#[c+1]⟩ tv ⟨#[92]⟩ (Z 11) false) [] 1 12 12,evX (fun J Z=>X_add0 ⟨#[]⟩ (Z 3) ⟨#[c+1]⟩ tv) [] 1 12 12,evX (fun J Z=>X_inE p n tn (J 8) (e+1) (Z 6) (hGt Pw) (pick [Z 0,Z 4,Z 7,Z 8] 0) 4 ⟨#[c+1]⟩ tv (.str ⟨#[c+1]⟩ tv) u) [9,10,11,0,1,2,3,4,5,6,7] 2 12 13]
theorem run_gtE (p:SP)(n:Int)(tn e e3 c tv:Nat)(u:Wd)(Pw:Params):∀ (b1 b2:Bool) (J Z:Nu),RD (X_gtE p n tn e e3 c tv u) Pw b1 b2 211 (gtE_hs b1 b2) (gtE_cs Pw p n tn e e3 c tv u b1 b2) [] [13] J Z
  | true,b2,J,Z=>by kernel_rfl
  | false,b2,J,Z=>by kernel_rfl
theorem ok_gtE (w:World){p:SP}{n:Int}{tn e e3 c tv:Nat}{u:Wd}(hc:plainCh c)(hq:([c+1]==[34])=false)(hp:Plain u)(hz:1+u.length≤sizeLine)(hl:(wv u []).length<sizeLine):(X_gtE p n tn e e3 c tv u).Ok w :=
  ok_of_run (hs:=gtE_hs (row1 w) (row2 w)) (cs:=gtE_cs w.params p n tn e e3 c tv u (row1 w) (row2 w)) (ns:=[]) (ts:=[13]) (vc (fun J Z=>ok_lenL (Nat.zero_le _)) rfl (vc (fun J Z=>ok_ci w hl (plain_nl hc)) rfl (vc (fun J Z=>ok_has (plain_ws hc)) rfl (vc (fun J Z=>ok_eq hq) rfl (vc (fun J Z=>ok_eq (plain_bs hc)) rfl (vc (fun J Z=>ok_add0 rfl) rfl (vc (fun J Z=>ok_inE w _ _ _ _ _ hp Nat.one_ne_zero hz) rfl (va_nil)))))))) rfl rfl (by decide) (show ∀ j∈([]:List Nat),9≤j by decide) (run_gtE p n tn e e3 c tv u w.params (row1 w) (row2 w))
noncomputable def X_gtNS (p:SP)(n:Int)(tn e e3 tv0 c tv:Nat)(u:Wd)(tc tt:Nat)(r:List Value):Spec:={ n0:=9,k:=0,nt:=2,d:=500,code:=fun J=>.call (.ref 150) ⟨[.ref (J 0)],[]⟩,pre:=fun J=>(strm p J 0 (.int n tn) (J 8) (.str ⟨#[10]⟩ tv0::(.str ⟨#[c+1]⟩ tv)::(wv u ((.str ⟨#[tc+1]⟩ tt)::r))) e++[lst [] e3]),res:=fun J Z=>.ok (.ret (.str (wAcc ⟨#[c+1]⟩ u) (Z 0))),post:=fun J Z=>(strm p J 0 (.int (n+1) (Z 1)) (J 8) r (wE (e+1+1) u)++[lst [] e3]),new:=fun J Z=>[] }
noncomputable def gtNS_hs (b1 b2:Bool):List Nat:=[0,0,10,10,1,10,1,0,0,0,1,0,0,0,1,1,0,2,9,9,10,10,0,0,10,1,0,0,0,1,0,0,0,0,0,0,1,1,0,2,0,0,0,0,11,10,10,10,12,12,12,12,12,12,10,10,10,10,1,0,0,0,1,0,0,0,1,1,0,2,12,12,10,10,10,10,1,0,0,0,1,0,0,0,1,1,0,2,10,10,10,10,10,10,10,12,12,12,12]
noncomputable def gtNS_cs (Pw:Params)(p:SP)(n:Int)(tn e e3 tv0 c tv:Nat)(u:Wd)(tc tt:Nat)(r:List Value)(b1 b2:Bool):List Ev:=[evX (fun J Z=>X_lenL [] e3) [8] 2 10 2,evX (fun J Z=>X_ciN p n tn (J 8) e (Z 6) tv0 ((.str ⟨#[c+1]⟩ tv)::(wv u ((.str ⟨#[tc+1]⟩ tt)::r)))) [11,10,0,1,2,3,4,5,6,7] 9 12 8,evX (fun J Z=>X_has sWs (p.tf 3) ⟨#[10]⟩ tv0 true) [] 2 12 11,evX (fun J Z=>X_ci p (n+1) (Z 8) (J 8) (e+1) (Z 6) c tv (wv u ((.str ⟨#[tc+1]⟩ tt)::r))) [11,10,0,1,2,3,4,5,6,7] 2 12 11,evX (fun J Z=>X_has sWs (p.tf 3) ⟨#[c+1]⟩ tv false) [] 2 12 13,evX (fun J Z=>X_eq ⟨#[c+1]⟩ tv ⟨#[34]⟩ (Z 13) false) [] 1 12 14,evX (fun J Z=>X_eq ⟨#[c+1]⟩ tv ⟨#[92]⟩ (Z 14) false) [] 1 12 15,evX (fun J Z=>X_add0 ⟨#[]⟩ (Z 3) ⟨#[c+1]⟩ tv) [] 1 12 15,evX (fun J Z=>X_inS p (n+1) (Z 8) (J 8) (e+1+1) (Z 6) (hGt Pw) (pick [Z 0,Z 4,Z 7,Z 9] 0) 4 ⟨#[c+1]⟩ tv (.str ⟨#[c+1]⟩ tv) u tc tt r) [9,10,11,0,1,2,3,4,5,6,7] 2 12 16]
theorem run_gtNS (p:SP)(n:Int)(tn e e3 tv0 c tv:Nat)(u:Wd)(tc tt:Nat)(r:List Value)(Pw:Params):∀ (b1 b2:Bool) (J Z:Nu),RD (X_gtNS p n tn e e3 tv0 c tv u tc tt r) Pw b1 b2 233 (gtNS_hs b1 b2) (gtNS_cs Pw p n tn e e3 tv0 c tv u tc tt r b1 b2) [] [16,8] J Z
  | true,b2,J,Z=>by kernel_rfl
  | false,b2,J,Z=>by kernel_rfl
theorem ok_gtNS (w:World){p:SP}{n:Int}{tn e e3 tv0 c tv:Nat}{u:Wd}{tc tt:Nat}{r:List Value}(hc:plainCh c)(hq:([c+1]==[34])=false)(hp:Plain u)(hz:1+u.length≤sizeLine)(h1:([tc+1]==[10])=false)(h2:decide (tc+1∈sWs.cps.toList)=true)(hl:(wv u (.str ⟨#[tc+1]⟩ tt::r)).length<sizeLine)(hl2:u.length+1+r.length≤sizeLine)(hl0:(.str ⟨#[c+1]⟩ tv::(wv u ((.str ⟨#[tc+1]⟩ tt)::r)):List Value).length<sizeLine):(X_gtNS p n tn e e3 tv0 c tv u tc tt r).Ok w :=
  ok_of_run (hs:=gtNS_hs (row1 w) (row2 w)) (cs:=gtNS_cs w.params p n tn e e3 tv0 c tv u tc tt r (row1 w) (row2 w)) (ns:=[]) (ts:=[16,8]) (vc (fun J Z=>ok_lenL (Nat.zero_le _)) rfl (vc (fun J Z=>ok_ciN w hl0) rfl (vc (fun J Z=>ok_has (by decide)) rfl (vc (fun J Z=>ok_ci w hl (plain_nl hc)) rfl (vc (fun J Z=>ok_has (plain_ws hc)) rfl (vc (fun J Z=>ok_eq hq) rfl (vc (fun J Z=>ok_eq (plain_bs hc)) rfl (vc (fun J Z=>ok_add0 rfl) rfl (vc (fun J Z=>ok_inS w h1 h2 _ _ _ _ _ hp Nat.one_ne_zero hz hl2) rfl (va_nil)))))))))) rfl rfl (by decide) (show ∀ j∈([]:List Nat),9≤j by decide) (run_gtNS p n tn e e3 tv0 c tv u tc tt r w.params (row1 w) (row2 w))
noncomputable def X_gtNE (p:SP)(n:Int)(tn e e3 tv0 c tv:Nat)(u:Wd):Spec:={ n0:=9,k:=0,nt:=2,d:=500,code:=fun J=>.call (.ref 150) ⟨[.ref (J 0)],[]⟩,pre:=fun J=>(strm p J 0 (.int n tn) (J 8) (.str ⟨#[10]⟩ tv0::(.str ⟨#[c+1]⟩ tv)::(wv u [])) e++[lst [] e3]),res:=fun J Z=>.ok (.ret (.str (wAcc ⟨#[c+1]⟩ u) (Z 0))),post:=fun J Z=>(strm p J 0 (.int (n+1) (Z 1)) (J 8) [] (wF (e+1+1) u)++[lst [] e3]),new:=fun J Z=>[] }
noncomputable def gtNE_hs (b1 b2:Bool):List Nat:=[0,0,10,10,1,10,1,0,0,0,1,0,0,0,1,1,0,2,9,9,10,10,0,0,10,1,0,0,0,1,0,0,0,0,0,0,1,1,0,2,0,0,0,0,11,10,10,10,12,12,12,12,12,12,10,10,10,10,1,0,0,0,1,0,0,0,1,1,0,2,12,12,10,10,10,10,1,0,0,0,1,0,0,0,1,1,0,2,10,10,10,10,10,10,10,12,12,12,12,12,12,12,14,10]
noncomputable def gtNE_cs (Pw:Params)(p:SP)(n:Int)(tn e e3 tv0 c tv:Nat)(u:Wd)(b1 b2:Bool):List Ev:=[evX (fun J Z=>X_lenL [] e3) [8] 2 10 2,evX (fun J Z=>X_ciN p n tn (J 8) e (Z 6) tv0 ((.str ⟨#[c+1]⟩ tv)::(wv u []))) [11,10,0,1,2,3,4,5,6,7] 9 12 8,evX (fun J Z=>X_has sWs (p.tf 3) ⟨#[10]⟩ tv0 true) [] 2 12 11,evX (fun J Z=>X_ci p (n+1) (Z 8) (J 8) (e+1) (Z 6) c tv (wv u [])) [11,10,0,1,2,3,4,5,6,7] 2 12 11,evX (fun J Z=>X_has sWs (p.tf 3) ⟨#[c+1]⟩ tv false) [] 2 12 13,evX (fun J Z=>X_eq ⟨#[c+1]⟩ tv ⟨#[34]⟩ (Z 13) false) [] 1 12 14,evX (fun J Z=>X_eq ⟨#[c+1]⟩ tv ⟨#[92]⟩ (Z 14) false) [] 1 12 15,evX (fun J Z=>X_add0 ⟨#[]⟩ (Z 3) ⟨#[c+1]⟩ tv) [] 1 12 15,evX (fun J Z=>X_inE p (n+1) (Z 8) (J 8) (e+1+1) (Z 6) (hGt Pw) (pick [Z 0,Z 4,Z 7,Z 9] 0) 4 ⟨#[c+1]⟩ tv (.str ⟨#[c+1]⟩ tv) u) [9,10,11,0,1,2,3,4,5,6,7] 2 12 16]
theorem run_gtNE (p:SP)(n:Int)(tn e e3 tv0 c tv:Nat)(u:Wd)(Pw:Params):∀ (b1 b2:Bool) (J Z:Nu),RD (X_gtNE p n tn e e3 tv0 c tv u) Pw b1 b2 250 (gtNE_hs b1 b2) (gtNE_cs Pw p n tn e e3 tv0 c tv u b1 b2) [] [16,8] J Z
  | true,b2,J,Z=>by kernel_rfl
  | false,b2,J,Z=>by kernel_rfl
theorem ok_gtNE (w:World){p:SP}{n:Int}{tn e e3 tv0 c tv:Nat}{u:Wd}(hc:plainCh c)(hq:([c+1]==[34])=false)(hp:Plain u)(hz:1+u.length≤sizeLine)(hl:(wv u []).length<sizeLine)(hl0:(.str ⟨#[c+1]⟩ tv::(wv u []):List Value).length<sizeLine):(X_gtNE p n tn e e3 tv0 c tv u).Ok w :=
  ok_of_run (hs:=gtNE_hs (row1 w) (row2 w)) (cs:=gtNE_cs w.params p n tn e e3 tv0 c tv u (row1 w) (row2 w)) (ns:=[]) (ts:=[16,8]) (vc (fun J Z=>ok_lenL (Nat.zero_le _)) rfl (vc (fun J Z=>ok_ciN w hl0) rfl (vc (fun J Z=>ok_has (by decide)) rfl (vc (fun J Z=>ok_ci w hl (plain_nl hc)) rfl (vc (fun J Z=>ok_has (plain_ws hc)) rfl (vc (fun J Z=>ok_eq hq) rfl (vc (fun J Z=>ok_eq (plain_bs hc)) rfl (vc (fun J Z=>ok_add0 rfl) rfl (vc (fun J Z=>ok_inE w _ _ _ _ _ hp Nat.one_ne_zero hz) rfl (va_nil)))))))))) rfl rfl (by decide) (show ∀ j∈([]:List Nat),9≤j by decide) (run_gtNE p n tn e e3 tv0 c tv u w.params (row1 w) (row2 w))
end
section
open PySem PySem.W PySem.W.X PySem.Spec PySem.Calls
set_option maxHeartbeats 400000
noncomputable def fnAt (P:Params)(a:Addr):FuncData:=match gl P a with
  | some ⟨_,_,.func fd,_⟩=>fd
  | _=>default
noncomputable def fdAt (P:Params)(a:Addr):Array Value:=match gl P a with
  | some ⟨_,_,.fields vs,_⟩=>vs
  | _=>#[]
theorem obj_of {P:Params}{a:Addr}{d:Data}(h:(gl P a).map (·.data)=some d):∃ o,gl P a=some o∧o.data=d:=by
  cases q:gl P a with
  | none=>rw [q] at h;cases h
  | some o=>rw [q] at h;exact ⟨o,rfl,Option.some.inj h⟩
noncomputable def sInit:Str:=⟨#[95,105,110,105,116,105,97,108,95,115,105,122,101]⟩
noncomputable abbrev sClass:Str:=⟨#[95,95,99,108,97,115,115,95,95]⟩
noncomputable abbrev sSuper:Str:=⟨#[115,117,112,101,114]⟩
noncomputable def accO (d:Nat)(vs:List Value)(e:Nat):Obj:={ cls:=.ref 118,dict:=some d,data:=.seq vs.toArray e }
noncomputable def supO (x:Nat):Obj:={ cls:=.type "super",data:=.fields #[.ref 118,.ref x,.ref 118] }
noncomputable def acB (k:Nat):List Stmt:=clB 4 k
noncomputable def acE (k:Nat)(q:Str)(f co fr:Nat):Env:={ scope:=clS 4 k,locals:=fr,globals:=3,cells:=[(sClass,42)],qual:=q,func:=some f,code:=.ref co,frame:=some fr,builtins:=0 }
theorem names_eq:(("super" : String):Str)=sSuper∧(("__class__" : String):Str)=sClass:=⟨by decide +kernel,by decide +kernel⟩
theorem at_of_own {w:World}{A:Around}{c:Code}{m:Sem Value}{Q E:Value→Shared→Prop}{s:Shared}
    (h:wpOwn (model prg w) { A with frames:=none,guards:=none } c (Sem.bind m fun v=>.pure (.done (.ret v))) (postC prg w { A with frames:=none,guards:=none } fun r s'=>match r with | .ok (.ret v)=>Q v s' | .ok _=>False | .error e=>E e s')
      (postE fun r s'=>match r with | .ok (.ret v)=>Q v s' | .ok _=>False | .error e=>E e s') s):wpAt (model prg w) A c m Q E s:=fun Γ p hc hΓ=>by
  have h1:=h Γ p hc ⟨hΓ.1,by have:=hΓ.2.1;show _≤A.depth;omega,(fun _ h=>by cases h),(fun _ h=>by cases h),by have:=hΓ.2.2.2.2;show _≤A.units;unfold Ctx.units at this;omega⟩
  show Sem.wp _ _ _ _ _ _ _
  have h2:Sem.wp (model prg w) Γ (m >>= fun v=>Sem.pure (Fin.done (Flow.ret v))) _ _ p s:=h1
  rw [Sem.wp_bind'] at h2
  exact Sem.wp_mono _ Γ m (fun a p' s' h'=>h') (fun _ _ _ h'=>h') p s h2
theorem look_name {P:Params}{a:Addr}{x:Str}{v:Option Value}{h:Heap}(hg:∀ a o,gl P a=some o→h.get? a=some o)(es:Array DictEntry)(n:Nat)(h1:(gl P a).map (·.data)=some (.dict es n))(h2:es.toList.all keyIsStr=true):h.Ns a (fun x=>nsFind es x):=by
  obtain ⟨o,ho,hd⟩:=obj_of h1
  refine ⟨o,es,n,hg a o ho,hd,fun e he=>?_,fun _=>rfl⟩
  have:=List.all_eq_true.mp h2 e (Array.mem_toList_iff.mpr he)
  unfold keyIsStr at this
  split at this
  · rename_i n t hk;exact ⟨n,t,hk⟩
  · cases this
noncomputable def esAt (P:Params)(a:Addr):Array DictEntry:=match gl P a with
  | some ⟨_,_,.dict es _,_⟩=>es
  | _=>#[]
theorem es3_at (P:Params):(gl P 3).map (·.data)=some (.dict (esAt P 3) 23):=by kernel_rfl
theorem es3_keys (P:Params):(esAt P 3).toList.all keyIsStr=true:=by kernel_rfl
theorem es3_super (P:Params):nsFind (esAt P 3) sSuper=none:=by kernel_rfl
noncomputable def epAt (P:Params)(a:Addr):Nat:=match gl P a with
  | some ⟨_,_,.dict _ n,_⟩=>n
  | _=>0
theorem es0_at (P:Params):(gl P 0).map (·.data)=some (.dict (esAt P 0) (epAt P 0)):=by kernel_rfl
theorem es0_keys (P:Params):(esAt P 0).toList.all keyIsStr=true:=by kernel_rfl
theorem es0_super (P:Params):nsFind (esAt P 0) sSuper=some (.type "super"):=by kernel_rfl
theorem cell42 (P:Params):(gl P 42).map (·.data)=some (.cell (some (.ref 118))):=by kernel_rfl
noncomputable def clsAt (P:Params)(a:Addr):ClassData:=match gl P a with
  | some ⟨_,_,.cls c,_⟩=>c
  | _=>default
theorem cls118 (P:Params):(gl P 118).map (·.data)=some (.cls (clsAt P 118)):=by kernel_rfl
theorem super_at {w:World}{A:Around}{s:Shared}{k f co a:Nat}{q:Str}{fr:Nat}{body:List Stmt}{p0 p1:Pos}{attr:Str}{whole:Sem Value}{Q E:Value→Shared→Prop}{es:List DictEntry}{e:Nat}
    (hg:∀ a o,gl w.params a=some o→s.heap.get? a=some o) (hfr:s.heap.get? fr=some (frm es e)) (hes:es.all keyIsStr=true) (hself:nsFind es.toArray sSelf=some (.ref a))
    (hat:(attr==("__class__" : Str))=false)
    (h1:(acE k q f co fr).kindOf ("super" : Str)=some .globalImplicit) (h2:(acE k q f co fr).kindOf ("__class__" : Str)=some .free) (h3:(acE k q f co fr).kindOf sSelf=some .local) (h4:(clS 4 k).kind=.function)
    (h5:(gl w.params f).map (·.data)=some (.func (fnAt w.params f))) (h6:(fun (p:Arguments)=>((p.posonlyargs++p.args).head?).map (·.arg)) (fnAt w.params f).params=some sSelf)
    (h7:(gl w.params co).map (·.data)=some (.fields (fdAt w.params co))) (h8:((fdAt w.params co)[2]?).map (fun v=>match v with | .str x _=>(prg.main.file:Str)==x | _=>false)=some true)
    (hq:wpAny (model prg w) A (call (.type "super") [.ref 118,.ref a]) Q E s) :
    wpAt (model prg w) A (.func body (acE k q f co fr)) (attributeBase (.Call (.Name "super" p0) [] [] p1) attr (acE k q f co fr) whole) Q E s:=by
  obtain ⟨of,hof,hofd⟩:=obj_of h5
  obtain ⟨oc,hoc,hocd⟩:=obj_of h7
  obtain ⟨ar,har,har2⟩:∃ ar,((fnAt w.params f).params.posonlyargs++(fnAt w.params f).params.args).head?=some ar∧ar.arg=sSelf:=by
    revert h6
    dsimp only
    cases ((fnAt w.params f).params.posonlyargs++(fnAt w.params f).params.args).head? with
    | none=>intro h;cases h
    | some ar=>intro h;exact ⟨ar,rfl,Option.some.inj h⟩
  obtain ⟨file,tf,hv,hfile⟩:∃ file tf,(fdAt w.params co)[2]?=some (.str file tf)∧((prg.main.file:Str)==file)=true:=by
    revert h8
    cases (fdAt w.params co)[2]? with
    | none=>intro h;cases h
    | some v =>
      cases v<;>intro h<;>first | (cases h;done) | exact ⟨_,_,rfl,Option.some.inj h⟩
  refine ks_wpAt_super_base (env:=acE k q f co fr) h1 h2 hat rfl (hg _ _ hof) hofd har rfl (hg _ _ hoc) hocd hv hfile (by decide +kernel) ?_
  refine ks_loadName_global h4 h1 (loadGlobal_builtin (env:=acE k q f co fr) (look_name (x:=sSuper) (v:=none) hg _ _ (es3_at _) (es3_keys _)) ?_ (look_name (x:=sSuper) (v:=none) hg _ _ (es0_at _) (es0_keys _)) ?_ ⟨rfl,?_⟩)
  · rw [names_eq.1];exact es3_super _
  · rw [names_eq.1];exact es0_super _
  obtain ⟨o42,ho42,hd42⟩:=obj_of (cell42 w.params)
  refine wpAny_loadName_free h4 h2 (c:=42) ?_ ⟨o42,hg _ _ ho42,hd42⟩ ?_
  · rw [names_eq.2];rfl
  rw [har2]
  refine wpAny_loadName_local h4 h3 ⟨_,es.toArray,e,hfr,rfl,fun x hx=>?_,fun _=>rfl⟩ hself ?_
  · have:=List.all_eq_true.mp hes x (by simpa using hx)
    unfold keyIsStr at this
    split at this
    · rename_i n t hk;exact ⟨n,t,hk⟩
    · cases this
  obtain ⟨o118,ho118,hd118⟩:=obj_of (cls118 w.params)
  exact ks_wpAny_isType_cls (hg _ _ ho118) hd118 ⟨rfl,hq⟩
noncomputable def restO (o:Expr)(name:Str)(apos pos:Pos)(env:Env)(ov:Value):Sem Fin :=
  Sem.bind (Sem.bind (standAt apos.atName) fun _=>methodCall o name apos pos env ov 0 (backTo pos (starEach [] env)) (backToKw pos [])) fun v=>.pure (.done (.ret v))
noncomputable def restD (o:Expr)(name:Str)(apos pos:Pos)(env:Env)(ov:Value):Sem Fin :=
  PySem.W.R.bindR (PySem.W.R.bindR (standAt apos.atName) fun _=>PySem.W.Fast.tw13401596951702201221 o name apos pos env ov 0 (PySem.W.Fast.tw4897270859577272712 pos (PySem.W.Fast.tw13897175071876407860 [] env)) []) fun v=>.pure (.done (.ret v))
theorem rest_eq:restO=restD:=by
  funext o name apos pos env ov
  unfold restO restD
  rw [PySem.W.R.bindR_eq,← PySem.W.Fast.te13401596951702201221,← PySem.W.Fast.te4897270859577272712,← PySem.W.Fast.te13897175071876407860]
  rfl
structure Meth where
  k:Nat
  q:Str
  f:Nat
  co:Nat
  o:Expr
  name:Str
  apos:Pos
  pos:Pos
noncomputable def callOf (e:Expr):Expr×Str×Pos×Pos:=match e with
  | .Call (.Attribute o name apos) _ _ pos=>(o,name,apos,pos)
  | _=>default
noncomputable def stExpr (s:Stmt):Expr:=match s with
  | .Return (some e) _=>e
  | .Expr e _=>e
  | _=>default
noncomputable def methOf (k n:Nat)(q:Str)(f co:Nat):Meth:=match callOf (stExpr (((acB k).drop n).headD default)) with
  | (o,name,apos,pos)=>{ k,q,f,co,o,name,apos,pos }
noncomputable def mPc:Meth:=methOf 8 0 ("_Accumulator.part_count.<locals>." : Str) 115 114
noncomputable def mPop:Meth:=methOf 3 1 ("_Accumulator.pop.<locals>." : Str) 78 77
noncomputable def mIni:Meth:=methOf 0 1 ("_Accumulator.__init__.<locals>." : Str) 55 54
noncomputable def Meth.env (m:Meth)(fr:Nat):Env:=acE m.k m.q m.f m.co fr
noncomputable def Meth.t (m:Meth)(J:Nu):Sem Fin:=restO m.o m.name m.apos m.pos (m.env (J 0)) (.ref (J 2))
noncomputable def Meth.tD (m:Meth)(J:Nu):Sem Fin:=restD m.o m.name m.apos m.pos (m.env (J 0)) (.ref (J 2))
noncomputable abbrev sIniSz:Str:=⟨#[105,110,105,116,105,97,108,95,115,105,122,101]⟩
noncomputable def dic0:Obj:={ cls:=.type "dict",data:=.dict #[] 0 }
noncomputable def accD (h:Int)(t u:Nat):Obj:={ cls:=.type "dict",data:=.dict #[⟨h,.str sInit t,.int 0 u⟩] 1 }
theorem acc_pop (l:Addr)(dd:Nat)(vs:List Value)(v:Value)(e:Nat)(hs1:vs.length<sizeLine) :
    Meets (Builtin.«list.pop» ⟨[.ref l],[]⟩)
      (fun _ R s=>s.heap.get? l=some (accO dd (vs++[v]) e)∧R (.ok (.ret v)) { s with heap:=s.heap.update l (Obj.mapSeq fun xs=>xs.eraseIdxIfInBounds vs.length),toks:=s.toks }) :=
  .of_wp fun prog w A R s h=>by
    obtain ⟨hp,g,d,tk,os⟩:=s;obtain ⟨hl,h⟩:=h
    unfold accO at hl
    have hne:¬ (vs++[v]).toArray.isEmpty=true:=by simp
    have hk:seqIndex? (-1) (vs++[v]).toArray.size=some vs.length:=by
      rw [List.size_toArray,List.length_append]
      unfold seqIndex?
      have:((vs.length+[v].length:Nat):Int)=vs.length+1:=by simp
      simp
      omega
    have hy:(vs++[v]).toArray[vs.length]?=some v:=by simp
    have hz:(vs++[v]).toArray.size≤sizeLine:=by simp;omega
    wp_walk using wpAny_loadPart' hl
    simp only [hk,hy,Option.bind_some,Option.map_some]
    have hz':((vs++[v]).toArray.eraseIdxIfInBounds vs.length).size≤sizeLine+1:=Nat.le_trans (MeetsSeq.size_erased _ _) (Nat.le_succ_of_le hz)
    wp_walk using (wpAny_updateSeq hl rfl (hz:=hz) (_hz':=hz')),wpAny_loadPart' hl
    exact ⟨_,rfl,h⟩
theorem acc_append (l:Addr)(dd:Nat)(vs:List Value)(v:Value)(e:Nat)(hs1:vs.length<sizeLine) :
    Meets (Builtin.«list.append» ⟨[.ref l,v],[]⟩)
      (fun _ R s=>s.heap.get? l=some (accO dd vs e)∧R (.ok (.ret .none)) { s with heap:=s.heap.update l (Obj.mapSeq fun xs=>xs.push v),toks:=s.toks }) :=
  .of_wp fun prog w A R s h=>by
    obtain ⟨hp,g,d,tk,os⟩:=s;obtain ⟨hl,h⟩:=h
    unfold accO at hl
    have hz:vs.toArray.size≤sizeLine:=by simp;omega
    have hz':(vs.toArray.push v).size≤sizeLine+1:=by simp;omega
    wp_walk using (wpAny_updateSeq hl rfl (hz:=hz) (_hz':=hz')),wpAny_loadPart' hl
    exact ⟨_,rfl,h⟩
theorem mapSeq_acc {d:Nat}{vs:List Value}{e:Nat}{f:Array Value→Array Value}{ws:List Value}(hf:f vs.toArray=ws.toArray)(hl:ws.length≠vs.length):Obj.mapSeq f (accO d vs e)=accO d ws (e+1):=by
  unfold accO Obj.mapSeq
  simp only [hf,List.size_toArray]
  have:(ws.length==vs.length)=false:=by simpa using hl
  rw [this];rfl
noncomputable def X_accPop (dd:Nat)(vs:List Value)(v:Value)(e:Nat):Spec:={ n0:=1,k:=0,nt:=0,d:=900,code:=fun J=>.builtin "list.pop" ⟨[.ref (J 0)],[]⟩,pre:=fun _=>[accO dd (vs++[v]) e],res:=fun _ _=>.ok (.ret v),post:=fun _ _=>[accO dd vs (e+1)],new:=fun _ _=>[] }
theorem ok_accPop {w:World}{dd:Nat}{v:Value}{vs:List Value}{e:Nat}(hl:vs.length<sizeLine):(X_accPop dd vs v e).Ok w :=
  ok_of_con fun J=>(con_upd (d:=900) (by decide +kernel) (entryFor_of_tree (by kernel_rfl)) (acc_pop (J 0) dd vs v e hl) (mapSeq_acc (ws:=vs) (by simp [Array.eraseIdxIfInBounds,List.eraseIdx_append_of_length_le]) (by simp)) rfl).mono fun r os nw ⟨h1,h2,h3⟩=>⟨[],rfl,by rw [h3];rfl,h1,h2,by rw [h3];rfl⟩
noncomputable def X_accApp (dd:Nat)(vs:List Value)(v:Value)(e:Nat):Spec:={ n0:=1,k:=0,nt:=0,d:=900,code:=fun J=>.builtin "list.append" ⟨[.ref (J 0),v],[]⟩,pre:=fun _=>[accO dd vs e],res:=fun _ _=>.ok (.ret .none),post:=fun _ _=>[accO dd (vs++[v]) (e+1)],new:=fun _ _=>[] }
theorem ok_accApp {w:World}{dd:Nat}{v:Value}{vs:List Value}{e:Nat}(hl:vs.length<sizeLine):(X_accApp dd vs v e).Ok w :=
  ok_of_con fun J=>(con_upd (d:=900) (by decide +kernel) (entryFor_of_tree (by kernel_rfl)) (acc_append (J 0) dd vs v e hl) (mapSeq_acc (ws:=vs++[v]) (by simp) (by simp)) rfl).mono fun r os nw ⟨h1,h2,h3⟩=>⟨[],rfl,by rw [h3];rfl,h1,h2,by rw [h3];rfl⟩
end
section
open PySem PySem.W PySem.W.X PySem.Spec PySem.Calls
set_option maxHeartbeats 0
noncomputable def X_sup (d:Nat)(vs:List Value)(e:Nat):Spec:={ n0:=1,k:=1,nt:=0,d:=600,code:=fun J=>.call (.type "super") ⟨[.ref 118,.ref (J 0)],[]⟩,pre:=fun J=>[accO d vs e],res:=fun J Z=>.ok (.ret (.ref (J 1))),post:=fun J Z=>[accO d vs e],new:=fun J Z=>[supO (J 0)] }
noncomputable def sup_hs (b1 b2:Bool):List Nat:=[0,2,2,2,0,1,1,0,2,2,2,2,2,2]
noncomputable def sup_cs (Pw:Params)(d:Nat)(vs:List Value)(e:Nat)(b1 b2:Bool):List Ev:=[]
theorem run_sup (d:Nat)(vs:List Value)(e:Nat)(Pw:Params):∀ (b1 b2:Bool) (J Z:Nu),RD (X_sup d vs e) Pw b1 b2 28 (sup_hs b1 b2) (sup_cs Pw d vs e b1 b2) [1] [] J Z
  | true,b2,J,Z=>by kernel_rfl
  | false,b2,J,Z=>by kernel_rfl
theorem ok_sup (w:World){d:Nat}{vs:List Value}{e:Nat}  : (X_sup d vs e).Ok w :=
  ok_of_run (hs:=sup_hs (row1 w) (row2 w)) (cs:=sup_cs w.params d vs e (row1 w) (row2 w)) (ns:=[1]) (ts:=[]) (va_nil) rfl rfl (by decide) (show ∀ j∈([1]:List Nat),1≤j by decide) (run_sup d vs e w.params (row1 w) (row2 w))
noncomputable def X_pcR (d:Nat)(vs:List Value)(e:Nat)(sh:Int)(st fe:Nat):Spec:={ n0:=3,k:=0,nt:=1,d:=600,code:=fun J=>.func (acB 8) (mPc.env (J 0)),pre:=fun J=>[frm [⟨sh,.str sSelf st,.ref (J 1)⟩] fe,accO d vs e,supO (J 1)],res:=fun J Z=>.ok (.ret (.int vs.length (Z 0))),post:=fun J Z=>[frm [⟨sh,.str sSelf st,.ref (J 1)⟩] fe,accO d vs e,supO (J 1)],new:=fun J Z=>[] }
noncomputable def pcR_hs (b1 b2:Bool):List Nat:=[3,3,3,3,3,3,0,0,2,0,4,4,2]
noncomputable def pcR_cs (Pw:Params)(d:Nat)(vs:List Value)(e:Nat)(sh:Int)(st fe:Nat)(b1 b2:Bool):List Ev:=[]
theorem run_pcR (d:Nat)(vs:List Value)(e:Nat)(sh:Int)(st fe:Nat)(Pw:Params):∀ (b1 b2:Bool) (J Z:Nu),RE (X_pcR d vs e sh st fe) (fun J=>mPc.tD J) Pw b1 b2 34 (pcR_hs b1 b2) (pcR_cs Pw d vs e sh st fe b1 b2) [] [1] J Z
  | true,b2,J,Z=>by kernel_rfl
  | false,b2,J,Z=>by kernel_rfl
theorem va_pcR (w:World){d:Nat}{vs:List Value}{e:Nat}{sh:Int}{st fe:Nat}  (b1 b2:Bool):ValidAll prg w (gl w.params) (pcR_cs w.params d vs e sh st fe b1 b2):=va_nil
noncomputable def X_popR (d:Nat)(vs:List Value)(e:Nat)(sh:Int)(st fe v:Nat):Spec:={ n0:=3,k:=0,nt:=0,d:=600,code:=fun J=>.func (acB 3) (mPop.env (J 0)),pre:=fun J=>[frm [⟨sh,.str sSelf st,.ref (J 1)⟩] fe,accO d (vs++[.ref v]) e,supO (J 1)],res:=fun J Z=>.ok (.ret (.ref v)),post:=fun J Z=>[frm [⟨sh,.str sSelf st,.ref (J 1)⟩] fe,accO d vs (e+1),supO (J 1)],new:=fun J Z=>[] }
noncomputable def popR_hs (b1 b2:Bool):List Nat:=[3,3,3,3,3,3,0,0,2,0,4,4,2,0,2,2,0,0]
noncomputable def popR_cs (Pw:Params)(d:Nat)(vs:List Value)(e:Nat)(sh:Int)(st fe v:Nat)(b1 b2:Bool):List Ev:=[evX (fun J Z=>X_accPop d vs (.ref v) e) [1] 5 4 1]
theorem run_popR (d:Nat)(vs:List Value)(e:Nat)(sh:Int)(st fe v:Nat)(Pw:Params):∀ (b1 b2:Bool) (J Z:Nu),RE (X_popR d vs e sh st fe v) (fun J=>mPop.tD J) Pw b1 b2 37 (popR_hs b1 b2) (popR_cs Pw d vs e sh st fe v b1 b2) [] [] J Z
  | true,b2,J,Z=>by kernel_rfl
  | false,b2,J,Z=>by kernel_rfl
theorem va_popR (w:World){d:Nat}{vs:List Value}{e:Nat}{sh:Int}{st fe v:Nat}(hl:vs.length<sizeLine)(b1 b2:Bool):ValidAll prg w (gl w.params) (popR_cs w.params d vs e sh st fe v b1 b2):=vc (fun J Z=>ok_accPop hl) rfl (va_nil)
noncomputable def X_iniR (d:Nat)(vs:List Value)(e:Nat)(sh:Int)(st fe:Nat)(sh2:Int)(st2:Nat):Spec:={ n0:=3,k:=0,nt:=0,d:=600,code:=fun J=>.func (acB 0) (mIni.env (J 0)),pre:=fun J=>[frm [⟨sh,.str sSelf st,.ref (J 1)⟩,⟨sh2,.str sIniSz st2,.int 0 305⟩] fe,accO d [] e,supO (J 1)],res:=fun J Z=>.ok (.ret .none),post:=fun J Z=>[frm [⟨sh,.str sSelf st,.ref (J 1)⟩,⟨sh2,.str sIniSz st2,.int 0 305⟩] fe,accO d [] e,supO (J 1)],new:=fun J Z=>[] }
noncomputable def iniR_hs (b1 b2:Bool):List Nat:=[3,3,3,3,3,3,0,0,2,0,4,4,2,2,2,2]
noncomputable def iniR_cs (Pw:Params)(d:Nat)(vs:List Value)(e:Nat)(sh:Int)(st fe:Nat)(sh2:Int)(st2:Nat)(b1 b2:Bool):List Ev:=[]
theorem run_iniR (d:Nat)(vs:List Value)(e:Nat)(sh:Int)(st fe:Nat)(sh2:Int)(st2:Nat)(Pw:Params):∀ (b1 b2:Bool) (J Z:Nu),RE (X_iniR d vs e sh st fe sh2 st2) (fun J=>mIni.tD J) Pw b1 b2 36 (iniR_hs b1 b2) (iniR_cs Pw d vs e sh st fe sh2 st2 b1 b2) [] [] J Z
  | true,b2,J,Z=>by kernel_rfl
  | false,b2,J,Z=>by kernel_rfl
theorem va_iniR (w:World){d:Nat}{vs:List Value}{e:Nat}{sh:Int}{st fe:Nat}{sh2:Int}{st2:Nat}  (b1 b2:Bool):ValidAll prg w (gl w.params) (iniR_cs w.params d vs e sh st fe sh2 st2 b1 b2):=va_nil
end
section
open PySem PySem.W PySem.W.X PySem.Spec PySem.Calls
set_option maxHeartbeats 400000
noncomputable def frS (sh:Int)(st self fe:Nat):Obj:=frm [⟨sh,.str sSelf st,.ref self⟩] fe
noncomputable def SR (m:Meth)(d:Nat)(vs:List Value)(e:Nat)(vs':List Value)(e' nt:Nat)(resv:Nu→Value)(es:Nat→List DictEntry)(fe:Nat):Spec :=
  { n0:=3,k:=0,nt:=nt,d:=600,code:=fun J=>.func (acB m.k) (m.env (J 0)),pre:=fun J=>[frm (es (J 1)) fe,accO d vs e,supO (J 1)],
    res:=fun _ Z=>.ok (.ret (resv Z)),post:=fun J _=>[frm (es (J 1)) fe,accO d vs' e',supO (J 1)],new:=fun _ _=>[] }
structure MethOk (m:Meth)(w:World):Prop where
  o:∃ p0 p1,m.o=.Call (.Name "super" p0) [] [] p1
  at_:(m.name==("__class__" : Str))=false
  h1:(m.env 0).kindOf ("super" : Str)=some .globalImplicit
  h2:(m.env 0).kindOf ("__class__" : Str)=some .free
  h3:(m.env 0).kindOf sSelf=some .local
  h4:(clS 4 m.k).kind=.function
  h5:(gl w.params m.f).map (·.data)=some (.func (fnAt w.params m.f))
  h6:(fun (p:Arguments)=>((p.posonlyargs++p.args).head?).map (·.arg)) (fnAt w.params m.f).params=some sSelf
  h7:(gl w.params m.co).map (·.data)=some (.fields (fdAt w.params m.co))
  h8:((fdAt w.params m.co)[2]?).map (fun v=>match v with | .str x _=>(prg.main.file:Str)==x | _=>false)=some true
theorem mOk_pc (w:World):MethOk mPc w:=⟨⟨_,_,rfl⟩,by decide +kernel,by kernel_rfl,by kernel_rfl,by kernel_rfl,by kernel_rfl,by kernel_rfl,by kernel_rfl,by kernel_rfl,by kernel_rfl⟩
theorem mOk_pop (w:World):MethOk mPop w:=⟨⟨_,_,rfl⟩,by decide +kernel,by kernel_rfl,by kernel_rfl,by kernel_rfl,by kernel_rfl,by kernel_rfl,by kernel_rfl,by kernel_rfl,by kernel_rfl⟩
theorem mOk_ini (w:World):MethOk mIni w:=⟨⟨_,_,rfl⟩,by decide +kernel,by kernel_rfl,by kernel_rfl,by kernel_rfl,by kernel_rfl,by kernel_rfl,by kernel_rfl,by kernel_rfl,by kernel_rfl⟩
theorem eval_method {o:Expr}{name:Str}{apos pos:Pos}{env:Env}:eval (.Call (.Attribute o name apos) [] [] pos) env =
    (attributeBase o name env (eval o env) >>= fun ov=>Sem.bind (standAt apos.atName) fun _=>methodCall o name apos pos env ov 0 (backTo pos (starEach [] env)) (backToKw pos [])):=by rfl
theorem ne_lt {a b n:Nat}(h1:a<n)(h2:n≤b):a≠b:=by omega
theorem eval_super {w:World}{A:Around}{s:Shared}{m:Meth}{J:Nu}{d:Nat}{vs:List Value}{e:Nat}{vs':List Value}{e' nt:Nat}{resv:Nu→Value}{es:Nat→List DictEntry}{fe fuel:Nat}{hs:List Nat}{cs:List Ev}{ts:List Nat}{Q E:Value→Shared→Prop}
    (M:MethOk m w) (hes:(es (J 1)).all keyIsStr=true) (hself:nsFind (es (J 1)).toArray sSelf=some (.ref (J 1))) (V:ValidAll prg w (gl w.params) cs) (ht:ts.length=nt)
    (run:∀ J Z,runL (SR m d vs e vs' e' nt resv es fe) m.tD w.params (row1 w) (row2 w) fuel hs cs [] (up J) Z=runR (SR m d vs e vs' e' nt resv es fe) m.tD w.params (row1 w) (row2 w) fuel hs cs [] ts (up J) Z)
    (sA:Small A 600) (hg:∀ a o,gl w.params a=some o→s.heap.get? a=some o) (hp:Has s.heap [J 0,J 1] [frm (es (J 1)) fe,accO d vs e]) (hnd:[J 0,J 1].Nodup) (hout:∀ a∈[J 0,J 1],gl w.params a=none∧183≤a)
    (K:∀ θ s',(∀ j,nt≤j→θ j=0)→Has s'.heap [J 0,J 1] [frm (es (J 1)) fe,accO d vs' e']→After (gl w.params) [J 0,J 1] s s'→Q (resv θ) s') :
    wpAt (model prg w) A (.func (acB m.k) (m.env (J 0))) (eval (.Call (.Attribute m.o m.name m.apos) [] [] m.pos) (m.env (J 0))) Q E s:=by
  obtain ⟨p0,p1,ho⟩:=M.o
  rw [eval_method]
  refine wpAt_bind ?_
  rw [ho]
  obtain ⟨hf,hp1⟩:=has_cons.mp hp
  refine super_at (a:=J 1) hg hf hes hself M.at_ M.h1 M.h2 M.h3 M.h4 M.h5 M.h6 M.h7 M.h8 ?_
  refine wpAny_call (codeAny_mono (ok_sup w (fun j=>J (j+1)) A s sA hg hp1 (List.nodup_cons.mp hnd).2 (fun a ha=>hout a (mO ha))) ?_)
  rintro r s1 ⟨μ,θ,E1⟩
  have a0:μ 0=J 1:=E1.agree 0 (show 0<1 by decide)
  have res1:r=.ok (.ret (.ref (μ 1))):=E1.res
  subst res1
  have post1:s1.heap.get? (J 1)=some (accO d vs e):=(has_cons.mp (show Has s1.heap [J 1] [accO d vs e] from E1.post)).1
  have new1:s1.heap.get? (μ 1)=some (supO (μ 0)):=(has_cons.mp (show Has s1.heap [μ 1] [supO (μ 0)] from E1.new)).1
  rw [a0] at new1
  have fr1:s.heap.objs.size≤μ 1:=E1.fresh 0 (show 0<1 by decide)
  have F1:After (gl w.params) [J 1] s s1:=E1.after
  have hne:J 0≠J 1:=fun z=>(List.nodup_cons.mp hnd).1 (z▸List.mem_cons_self ..)
  have hfr1:s1.heap.get? (J 0)=some (frm (es (J 1)) fe):=F1.keep _ _ hf (by simpa using hne)
  have l0:J 0<s.heap.objs.size:=Heap.lt_size hf
  have l1:J 1<s.heap.objs.size:=Heap.lt_size (has_cons.mp hp1).1
  refine at_of_own ?_
  have key:=wp_run (w:=w) (X:=SR m d vs e vs' e' nt resv es fe) (t:=m.tD) (fuel:=fuel) (hs:=hs) (cs:=cs) (ns:=[]) (ts:=ts) V rfl ht List.nodup_nil (fun _ h=>by cases h) run
    (J:=pick [J 0,J 1,μ 1] 0) (A:={ A with frames:=none,guards:=none }) (s:=s1) sA F1.glob
    (show Has s1.heap [J 0,J 1,μ 1] [frm (es (J 1)) fe,accO d vs e,supO (J 1)] from has_cons.mpr ⟨hfr1,has_cons.mpr ⟨post1,has_cons.mpr ⟨new1,rfl⟩⟩⟩)
    (show [J 0,J 1,μ 1].Nodup from by simp only [List.nodup_cons,List.mem_cons,List.not_mem_nil,or_false,not_or,List.nodup_nil,and_true,not_false_eq_true];exact ⟨⟨hne,ne_lt l0 fr1⟩,ne_lt l1 fr1⟩)
    (show ∀ a∈[J 0,J 1,μ 1],_ from fun a ha=>by
      rcases mQ ha with rfl | ha
      · exact hout _ mS
      rcases mQ ha with rfl | ha
      · exact hout _ (mO mS)
      rcases mQ ha with rfl | ha
      · refine ⟨?_,Nat.le_trans (gl_big hg) fr1⟩
        cases q:gl w.params (μ 1) with
        | none=>rfl
        | some o=>have:μ 1<s.heap.objs.size:=Heap.lt_size (hg _ _ q);omega
      cases ha)
    (R:=fun r s'=>match r with | .ok (.ret v)=>Q v s' | .ok _=>False | .error e=>E e s') (by
      rintro r s2 ⟨μ2,θ2,E2⟩
      have res2:r=.ok (.ret (resv θ2)):=E2.res
      subst res2
      have b0:μ2 1=J 1:=E2.agree 1 (show 1<3 by decide)
      have post2:Has s2.heap [J 0,J 1,μ 1] [frm (es (μ2 1)) fe,accO d vs' e',supO (μ2 1)]:=E2.post
      rw [b0] at post2
      obtain ⟨q0,q1⟩:=has_cons.mp post2
      obtain ⟨q1,_⟩:=has_cons.mp q1
      have F2:After (gl w.params) [J 0,J 1,μ 1] s1 s2:=E2.after
      refine K θ2 s2 E2.tauZ (has_cons.mpr ⟨q0,has_cons.mpr ⟨q1,rfl⟩⟩) ⟨F2.glob,fun b o e hb=>?_,Nat.le_trans F1.size F2.size,F2.gens.trans F1.gens,F2.drawn.trans F1.drawn,F2.os.trans F1.os,Nat.le_trans F1.toks F2.toks⟩
      have lb:b<s.heap.objs.size:=Heap.lt_size e
      simp only [List.mem_cons,List.not_mem_nil,or_false,not_or] at hb
      refine F2.keep b o (F1.keep b o e (by simpa using hb.2)) ?_
      simp only [List.mem_cons,List.not_mem_nil,or_false,not_or]
      exact ⟨hb.1,hb.2,ne_lt lb fr1⟩)
  have et:m.tD (trunc 3 (pick [J 0,J 1,μ 1] 0))=Sem.bind (Sem.bind (standAt m.apos.atName) fun _=>methodCall m.o m.name m.apos m.pos (m.env (J 0)) (.ref (μ 1)) 0 (backTo m.pos (starEach [] (m.env (J 0)))) (backToKw m.pos [])) fun v=>.pure (.done (.ret v)):=by
    unfold Meth.tD
    rw [← rest_eq];rfl
  have key:wpOwn (model prg w) { A with frames:=none,guards:=none } (.func (acB m.k) (m.env (J 0))) (m.tD (trunc 3 (pick [J 0,J 1,μ 1] 0))) _ _ s1:=key
  rw [et,ho] at key
  exact key
theorem small_deeper {A:Around}{env:Env}{d d':Nat}(h:Small A d)(hd:d+1≤d'):Small (A.deeper env) d':=⟨h.1,by have:=h.2.1;show A.depth+1≤_;omega,by have:=h.2.2;show A.units+3≤_;omega⟩
noncomputable def X_pcF (d:Nat)(vs:List Value)(e:Nat)(sh:Int)(st fe:Nat):Spec :=
  { n0:=2,k:=0,nt:=1,d:=590,code:=fun J=>.func (acB 8) (mPc.env (J 0)),pre:=fun J=>[frS sh st (J 1) fe,accO d vs e],res:=fun _ Z=>.ok (.ret (.int vs.length (Z 0))),post:=fun J _=>[frS sh st (J 1) fe,accO d vs e],new:=fun _ _=>[] }
theorem ends0 {w:World}{X:Spec}{J:Nu}{s:Shared}{r:Result}{s':Shared}{θ:Nu}(hk:X.k=0)(hn:X.new (trunc X.n0 J) θ=[])(tauZ:∀ j,X.nt≤j→θ j=0)(res:r=X.res (trunc X.n0 J) θ)(post:Has s'.heap (rng X.n0 J) (X.post (trunc X.n0 J) θ))(after:After (gl w.params) (rng X.n0 J) s s'):∃ μ θ,Ends w X J s r s' μ θ :=
  ⟨trunc X.n0 J,θ,fun j hj=>trunc_lt J hj,fun j hj=>trunc_ge J (by omega),tauZ,res,post,by rw [hk,hn];rfl,fun j hj=>by omega,fun j j' hj=>by omega,after⟩
theorem ok_pcF (w:World){d:Nat}{vs:List Value}{e:Nat}{sh:Int}{st fe:Nat}:(X_pcF d vs e sh st fe).Ok w:=by
  intro J A s sA hg hp hnd hout
  refine ks_codeAny_funcAt (env:=mPc.env (J 0)) (body:=acB 8) ?_
  show wpAt _ _ (.func (acB 8) _) (execs [.Return (some (.Call (.Attribute mPc.o mPc.name mPc.apos) [] [] mPc.pos)) _] (mPc.env (J 0))) _ _ s
  refine ks_wpAt_execs_cons (ks_wpAt_Return_some ?_)
  exact eval_super (m:=mPc) (d:=d) (vs:=vs) (e:=e) (vs':=vs) (e':=e) (nt:=1) (resv:=fun Z=>.int vs.length (Z 0)) (es:=fun a=>[⟨sh,.str sSelf st,.ref a⟩]) (fe:=fe) (ts:=[1]) (mOk_pc w) rfl rfl (va_pcR w (row1 w) (row2 w)) rfl (run_pcR d vs e sh st fe w.params (row1 w) (row2 w)) (small_deeper sA (show 590+1≤600 by decide)) hg hp hnd hout
    fun θ s' hz hs F=>ends0 (X:=X_pcF d vs e sh st fe) rfl rfl hz rfl hs F
theorem at_of_ownF {w:World}{A:Around}{c:Code}{m:Sem Flow}{Q:Flow→Shared→Prop}{E:Value→Shared→Prop}{s:Shared}
    (h:wpOwn (model prg w) { A with frames:=none,guards:=none } c (Sem.bind m fun v=>.pure (.done v)) (postC prg w { A with frames:=none,guards:=none } fun r s'=>match r with | .ok v=>Q v s' | .error e=>E e s')
      (postE fun r s'=>match r with | .ok v=>Q v s' | .error e=>E e s') s):wpAt (model prg w) A c m Q E s:=fun Γ p hc hΓ=>by
  have h1:=h Γ p hc ⟨hΓ.1,by have:=hΓ.2.1;show _≤A.depth;omega,(fun _ h=>by cases h),(fun _ h=>by cases h),by have:=hΓ.2.2.2.2;show _≤A.units;unfold Ctx.units at this;omega⟩
  show Sem.wp _ _ _ _ _ _ _
  have h2:Sem.wp (model prg w) Γ (m >>= fun v=>Sem.pure (Fin.done v)) _ _ p s:=h1
  rw [Sem.wp_bind'] at h2
  exact Sem.wp_mono _ Γ m (fun a p' s' h'=>h') (fun _ _ _ h'=>h') p s h2
theorem at_split {M:Model}{A:Around}{c:Code}{st:Stmt}{rest:List Stmt}{env:Env}{Q:Flow→Shared→Prop}{E:Value→Shared→Prop}{s:Shared}
    (h:wpAt M A c (execs [st] env) (fun f s'=>match f with | .next=>wpAt M A c (execs rest env) Q E s' | f=>Q f s') E s):wpAt M A c (execs (st::rest) env) Q E s:=by
  refine ks_wpAt_execs_cons fun Γ p hc hΓ=>?_
  have h1:=h Γ p hc hΓ
  rw [execs_cons,Sem.wp_bind'] at h1
  refine Sem.wp_mono M Γ _ (fun f p' s' h'=>?_) (fun _ _ _ h'=>h') p s h1
  cases f with
  | next=>exact h'
  | _=>exact h'
noncomputable def stT (sts:List Stmt)(env:Env):Sem Fin:=Sem.bind (execs sts env) fun v=>.pure (.done v)
noncomputable def stD (sts:List Stmt)(env:Env):Sem Fin:=PySem.W.R.bindR (PySem.W.Fast.tw12563942051412417395 sts env) fun v=>.pure (.done v)
theorem st_eq:stT=stD:=by
  funext sts env
  unfold stT stD
  rw [PySem.W.R.bindR_eq,← PySem.W.Fast.te12563942051412417395]
end
section
open PySem PySem.W PySem.W.X PySem.Spec PySem.Calls
set_option maxHeartbeats 0
noncomputable def X_pc (d:Nat)(vs:List Value)(e:Nat):Spec:={ n0:=1,k:=0,nt:=1,d:=580,code:=fun J=>.call (.ref 115) ⟨[.ref (J 0)],[]⟩,pre:=fun J=>[accO d vs e],res:=fun J Z=>.ok (.ret (.int vs.length (Z 0))),post:=fun J Z=>[accO d vs e],new:=fun J Z=>[] }
noncomputable def pc_hs (b1 b2:Bool):List Nat:=[0,0,2,2,1]
noncomputable def pc_cs (Pw:Params)(d:Nat)(vs:List Value)(e:Nat)(b1 b2:Bool):List Ev:=[evX (fun J Z=>X_pcF d vs e (hsh Pw sSelf) (Z 0) 1) [1,0] 0 2 1]
theorem run_pc (d:Nat)(vs:List Value)(e:Nat)(Pw:Params):∀ (b1 b2:Bool) (J Z:Nu),RD (X_pc d vs e) Pw b1 b2 14 (pc_hs b1 b2) (pc_cs Pw d vs e b1 b2) [] [1] J Z
  | true,b2,J,Z=>by kernel_rfl
  | false,b2,J,Z=>by kernel_rfl
theorem ok_pc (w:World){d:Nat}{vs:List Value}{e:Nat}  : (X_pc d vs e).Ok w :=
  ok_of_run (hs:=pc_hs (row1 w) (row2 w)) (cs:=pc_cs w.params d vs e (row1 w) (row2 w)) (ns:=[]) (ts:=[1]) (vc (fun J Z=>ok_pcF w) rfl (va_nil)) rfl rfl (by decide) (show ∀ j∈([]:List Nat),1≤j by decide) (run_pc d vs e w.params (row1 w) (row2 w))
noncomputable def X_pcV (d:Nat)(vs:List Value)(e:Nat)(n:Int):Spec:={ n0:=1,k:=0,nt:=1,d:=580,code:=fun J=>.call (.ref 115) ⟨[.ref (J 0)],[]⟩,pre:=fun J=>[accO d vs e],res:=fun J Z=>.ok (.ret (.int n (Z 0))),post:=fun J Z=>[accO d vs e],new:=fun J Z=>[] }
theorem ok_pcV (w:World){d:Nat}{vs:List Value}{e:Nat}{n:Int}(h:(vs.length:Int)=n):(X_pcV d vs e n).Ok w:=h▸ok_pc w
noncomputable def X_popIf (dh:Int)(dt du:Nat)(vs:List Value)(e:Nat)(sh:Int)(st fe v:Nat):Spec:={ n0:=3,k:=0,nt:=0,d:=560,code:=fun J=>.func (acB 3) (mPop.env (J 0)),pre:=fun J=>[frm [⟨sh,.str sSelf st,.ref (J 1)⟩] fe,accO (J 2) (vs++[.ref v]) e,accD dh dt du],res:=fun J Z=>.ok .next,post:=fun J Z=>[frm [⟨sh,.str sSelf st,.ref (J 1)⟩] fe,accO (J 2) (vs++[.ref v]) e,accD dh dt du],new:=fun J Z=>[] }
noncomputable def popIf_hs (b1 b2:Bool):List Nat:=[1,2,0,0,0,2,0,0,0,2,0,0,0,0,2,3,0]
noncomputable def popIf_cs (Pw:Params)(dh:Int)(dt du:Nat)(vs:List Value)(e:Nat)(sh:Int)(st fe v:Nat)(b1 b2:Bool):List Ev:=[evX (fun J Z=>X_pcV (J 2) (vs++[.ref v]) e (Int.ofNat (vs.length+1))) [1] 0 3 0]
theorem run_popIf (dh:Int)(dt du:Nat)(vs:List Value)(e:Nat)(sh:Int)(st fe v:Nat)(Pw:Params):∀ (b1 b2:Bool) (J Z:Nu),RE (X_popIf dh dt du vs e sh st fe v) (fun J=>stD [((acB 3).drop 0).headD default] (mPop.env (J 0))) Pw b1 b2 36 (popIf_hs b1 b2) (popIf_cs Pw dh dt du vs e sh st fe v b1 b2) [] [] J Z
  | true,b2,J,Z=>by kernel_rfl
  | false,b2,J,Z=>by kernel_rfl
theorem va_popIf (w:World){dh:Int}{dt du:Nat}{vs:List Value}{e:Nat}{sh:Int}{st fe v:Nat}  (b1 b2:Bool):ValidAll prg w (gl w.params) (popIf_cs w.params dh dt du vs e sh st fe v b1 b2):=vc (fun J Z=>ok_pcV w (by simp)) rfl (va_nil)
noncomputable def X_iniA (Pw:Params)(sh:Int)(st fe:Nat)(sh2:Int)(st2:Nat):Spec:={ n0:=3,k:=0,nt:=1,d:=560,code:=fun J=>.func (acB 0) (mIni.env (J 0)),pre:=fun J=>[frm [⟨sh,.str sSelf st,.ref (J 1)⟩,⟨sh2,.str sIniSz st2,.int 0 305⟩] fe,accO (J 2) [] 0,dic0],res:=fun J Z=>.ok .next,post:=fun J Z=>[frm [⟨sh,.str sSelf st,.ref (J 1)⟩,⟨sh2,.str sIniSz st2,.int 0 305⟩] fe,accO (J 2) [] 0,accD (hsh Pw sInit) (Z 0) 305],new:=fun J Z=>[] }
noncomputable def iniA_hs (b1 b2:Bool):List Nat:=[1,1,2,0,0,0,2,0,2,0,2,0,0,0,2,0,3,3,3]
noncomputable def iniA_cs (Pw:Params)(sh:Int)(st fe:Nat)(sh2:Int)(st2:Nat)(b1 b2:Bool):List Ev:=[]
theorem run_iniA (sh:Int)(st fe:Nat)(sh2:Int)(st2:Nat)(Pw:Params):∀ (b1 b2:Bool) (J Z:Nu),RE (X_iniA Pw sh st fe sh2 st2) (fun J=>stD [((acB 0).drop 0).headD default] (mIni.env (J 0))) Pw b1 b2 35 (iniA_hs b1 b2) (iniA_cs Pw sh st fe sh2 st2 b1 b2) [] [1] J Z
  | true,b2,J,Z=>by kernel_rfl
  | false,b2,J,Z=>by kernel_rfl
theorem va_iniA (w:World){sh:Int}{st fe:Nat}{sh2:Int}{st2:Nat}  (b1 b2:Bool):ValidAll prg w (gl w.params) (iniA_cs w.params sh st fe sh2 st2 b1 b2):=va_nil
end
section
open PySem PySem.W PySem.W.X PySem.Spec PySem.Calls
set_option maxHeartbeats 400000
theorem after_trans {g:Addr→Option Obj}{as as':List Addr}{s s1 s2:Shared}(h1:After g as s s1)(h2:After g as' s1 s2)(hs:∀ b∈as',b∈as∨s.heap.objs.size≤b):After g as s s2 :=
  ⟨h2.glob,fun b o e hb=>h2.keep b o (h1.keep b o e hb) fun hm=>by
    rcases hs b hm with h | h
    · exact hb h
    · exact absurd (Heap.lt_size e) (Nat.not_lt.mpr h),Nat.le_trans h1.size h2.size,h2.gens.trans h1.gens,h2.drawn.trans h1.drawn,h2.os.trans h1.os,Nat.le_trans h1.toks h2.toks⟩
theorem at_run {w:World}{X:Spec}{A:Around}{s:Shared}{J:Nu}{c:Code}{sts:List Stmt}{env:Env}{fuel:Nat}{hs:List Nat}{cs:List Ev}{ns ts:List Nat}{t:Nu→Sem Fin}{Q:Flow→Shared→Prop}{E:Value→Shared→Prop}(V:ValidAll prg w (gl w.params) cs)(hk:ns.length=X.k)(ht:ts.length=X.nt)(hn:ns.Nodup)(hge:∀ j∈ns,X.n0≤j)
    (run:∀ J Z,runL X t w.params (row1 w) (row2 w) fuel hs cs ns (up J) Z=runR X t w.params (row1 w) (row2 w) fuel hs cs ns ts (up J) Z)
    (et:t (trunc X.n0 J)=stD sts env) (ec:X.code (trunc X.n0 J)=c)
    (sA:Small A X.d) (hg:∀ a o,gl w.params a=some o→s.heap.get? a=some o) (hp:Has s.heap (rng X.n0 J) (X.pre (trunc X.n0 J))) (hnd:(rng X.n0 J).Nodup) (hout:∀ a∈rng X.n0 J,gl w.params a=none∧183≤a)
    (K:∀ r s',(∃ μ θ,Ends w X J s r s' μ θ)→match r with | .ok v=>Q v s' | .error e=>E e s'):wpAt (model prg w) A c (execs sts env) Q E s:=by
  refine at_of_ownF ?_
  have key:=wp_run (w:=w) (X:=X) (t:=t) (fuel:=fuel) (hs:=hs) (cs:=cs) (ns:=ns) (ts:=ts) V hk ht hn hge run (J:=J) (A:={ A with frames:=none,guards:=none }) (s:=s) sA hg hp hnd hout
    (R:=fun r s'=>match r with | .ok v=>Q v s' | .error e=>E e s') K
  rw [et,ec,← st_eq] at key
  exact key
noncomputable def X_popF (dh:Int)(dt du:Nat)(vs:List Value)(e:Nat)(sh:Int)(st fe v:Nat):Spec :=
  { n0:=3,k:=0,nt:=0,d:=550,code:=fun J=>.func (acB 3) (mPop.env (J 0)),pre:=fun J=>[frS sh st (J 1) fe,accO (J 2) (vs++[.ref v]) e,accD dh dt du],res:=fun _ _=>.ok (.ret (.ref v)),post:=fun J _=>[frS sh st (J 1) fe,accO (J 2) vs (e+1),accD dh dt du],new:=fun _ _=>[] }
theorem ok_popF (w:World){dh:Int}{dt du:Nat}{vs:List Value}{e:Nat}{sh:Int}{st fe v:Nat}(hl:vs.length<sizeLine):(X_popF dh dt du vs e sh st fe v).Ok w:=by
  intro J A s sA hg hp hnd hout
  refine ks_codeAny_funcAt (env:=mPop.env (J 0)) (body:=acB 3) ?_
  have sA':Small (A.deeper (mPop.env (J 0))) 560:=small_deeper sA (show 550+1≤560 by decide)
  show wpAt _ _ (.func (acB 3) _) (execs (((acB 3).drop 0).headD default::[.Return (some (.Call (.Attribute mPop.o mPop.name mPop.apos) [] [] mPop.pos)) _]) (mPop.env (J 0))) _ _ s
  refine at_split (at_run (X:=X_popIf dh dt du vs e sh st fe v) (J:=J) (ns:=[]) (ts:=[]) (va_popIf w (row1 w) (row2 w)) rfl rfl List.nodup_nil (fun _ h=>by cases h) (run_popIf dh dt du vs e sh st fe v w.params (row1 w) (row2 w)) rfl rfl sA' hg hp hnd hout ?_)
  rintro r s1 ⟨μ,θ,E1⟩
  have res1:r=.ok .next:=E1.res
  subst res1
  have a1:μ 1=J 1:=E1.agree 1 (show 1<3 by decide)
  have a2:μ 2=J 2:=E1.agree 2 (show 2<3 by decide)
  have post1:Has s1.heap [J 0,J 1,J 2] [frS sh st (μ 1) fe,accO (μ 2) (vs++[.ref v]) e,accD dh dt du]:=E1.post
  rw [a1,a2] at post1
  obtain ⟨p0,q1⟩:=has_cons.mp post1
  obtain ⟨p1,q2⟩:=has_cons.mp q1
  obtain ⟨p2,_⟩:=has_cons.mp q2
  have F1:After (gl w.params) [J 0,J 1,J 2] s s1:=E1.after
  have hnd:[J 0,J 1,J 2].Nodup:=hnd
  have hout:∀ a∈[J 0,J 1,J 2],gl w.params a=none∧183≤a:=hout
  simp only [List.nodup_cons,List.mem_cons,List.not_mem_nil,or_false,not_or,List.nodup_nil,and_true,not_false_eq_true] at hnd
  obtain ⟨⟨n1,n2⟩,n3⟩:=hnd
  show wpAt _ _ _ _ _ _ s1
  refine ks_wpAt_execs_cons (ks_wpAt_Return_some ?_)
  refine eval_super (m:=mPop) (J:=J) (d:=J 2) (vs:=vs++[Value.ref v]) (e:=e) (vs':=vs) (e':=e+1) (nt:=0) (resv:=fun Z=>.ref v) (es:=fun a=>[⟨sh,.str sSelf st,.ref a⟩]) (fe:=fe) (ts:=[]) (mOk_pop w) rfl rfl (va_popR w (d:=J 2) (vs:=vs) (e:=e) (sh:=sh) (st:=st) (fe:=fe) (v:=v) hl (row1 w) (row2 w)) rfl
    (run_popR (J 2) vs e sh st fe v w.params (row1 w) (row2 w)) (small_le sA' (by decide)) F1.glob (has_cons.mpr ⟨p0,has_cons.mpr ⟨p1,rfl⟩⟩) (by simpa using n1) (fun a ha=>hout a (List.mem_append_left [J 2] ha))
    fun θ s' hz hs F=>?_
  obtain ⟨z0,z1⟩:=has_cons.mp hs
  obtain ⟨z1,_⟩:=has_cons.mp z1
  have z2:=F.keep (J 2) _ p2 (by simp only [List.mem_cons,List.not_mem_nil,or_false,not_or];exact ⟨fun z=>n2 z.symm,fun z=>n3 z.symm⟩)
  exact ends0 (X:=X_popF dh dt du vs e sh st fe v) rfl rfl hz rfl (show Has s'.heap [J 0,J 1,J 2] _ from has_cons.mpr ⟨z0,has_cons.mpr ⟨z1,has_cons.mpr ⟨z2,rfl⟩⟩⟩)
    (after_trans F1 F fun b hb=>.inl (List.mem_append_left [J 2] hb))
noncomputable def fr2E (sh:Int)(st:Nat)(sh2:Int)(st2 a:Nat):List DictEntry:=[⟨sh,.str sSelf st,.ref a⟩,⟨sh2,.str sIniSz st2,.int 0 305⟩]
noncomputable def X_iniF (Pw:Params)(sh:Int)(st fe:Nat)(sh2:Int)(st2:Nat):Spec :=
  { n0:=3,k:=0,nt:=1,d:=550,code:=fun J=>.func (acB 0) (mIni.env (J 0)),pre:=fun J=>[frm (fr2E sh st sh2 st2 (J 1)) fe,accO (J 2) [] 0,dic0],res:=fun _ _=>.ok (.ret .none),post:=fun J Z=>[frm (fr2E sh st sh2 st2 (J 1)) fe,accO (J 2) [] 0,accD (hsh Pw sInit) (Z 0) 305],new:=fun _ Z=>[] }
theorem ok_iniF (w:World){sh:Int}{st fe:Nat}{sh2:Int}{st2:Nat}:(X_iniF w.params sh st fe sh2 st2).Ok w:=by
  intro J A s sA hg hp hnd hout
  refine ks_codeAny_funcAt (env:=mIni.env (J 0)) (body:=acB 0) ?_
  have sA':Small (A.deeper (mIni.env (J 0))) 560:=small_deeper sA (show 550+1≤560 by decide)
  show wpAt _ _ (.func (acB 0) _) (execs (((acB 0).drop 0).headD default::[.Expr (.Call (.Attribute mIni.o mIni.name mIni.apos) [] [] mIni.pos) _]) (mIni.env (J 0))) _ _ s
  refine at_split (at_run (X:=X_iniA w.params sh st fe sh2 st2) (J:=J) (ns:=[]) (ts:=[1]) (va_iniA w (sh:=sh) (st:=st) (fe:=fe) (sh2:=sh2) (st2:=st2) (row1 w) (row2 w)) rfl rfl List.nodup_nil (fun _ h=>by cases h) (run_iniA sh st fe sh2 st2 w.params (row1 w) (row2 w)) rfl rfl sA' hg hp hnd hout ?_)
  rintro r s1 ⟨μ,θ,E1⟩
  have res1:r=.ok .next:=E1.res
  subst res1
  have a1:μ 1=J 1:=E1.agree 1 (show 1<3 by decide)
  have a2:μ 2=J 2:=E1.agree 2 (show 2<3 by decide)
  have post1:Has s1.heap [J 0,J 1,J 2] [frm (fr2E sh st sh2 st2 (μ 1)) fe,accO (μ 2) [] 0,accD (hsh w.params sInit) (θ 0) 305]:=E1.post
  rw [a1,a2] at post1
  obtain ⟨p0,q1⟩:=has_cons.mp post1
  obtain ⟨p1,q2⟩:=has_cons.mp q1
  obtain ⟨p2,_⟩:=has_cons.mp q2
  have F1:After (gl w.params) [J 0,J 1,J 2] s s1:=E1.after
  have hnd:[J 0,J 1,J 2].Nodup:=hnd
  have hout:∀ a∈[J 0,J 1,J 2],gl w.params a=none∧183≤a:=hout
  simp only [List.nodup_cons,List.mem_cons,List.not_mem_nil,or_false,not_or,List.nodup_nil,and_true,not_false_eq_true] at hnd
  obtain ⟨⟨n1,n2⟩,n3⟩:=hnd
  show wpAt _ _ _ _ _ _ s1
  refine ks_wpAt_execs_cons (ks_wpAt_Expr_any ?_)
  refine eval_super (m:=mIni) (J:=J) (d:=J 2) (vs:=[]) (e:=0) (vs':=[]) (e':=0) (nt:=0) (resv:=fun Z=>.none) (es:=fr2E sh st sh2 st2) (fe:=fe) (ts:=[]) (mOk_ini w) rfl rfl (va_iniR w (d:=J 2) (vs:=[]) (e:=0) (sh:=sh) (st:=st) (fe:=fe) (sh2:=sh2) (st2:=st2) (row1 w) (row2 w)) rfl
    (run_iniR (J 2) [] 0 sh st fe sh2 st2 w.params (row1 w) (row2 w)) (small_le sA' (by decide)) F1.glob (has_cons.mpr ⟨p0,has_cons.mpr ⟨p1,rfl⟩⟩) (by simpa using n1) (fun a ha=>hout a (List.mem_append_left [J 2] ha)) fun θ2 s' hz hs F=>?_
  show wpAt _ _ _ (execs [] _) _ _ s'
  rw [execs_nil]
  refine wpAt_of_wpAny (wpAny_pure ?_)
  obtain ⟨z0,z1⟩:=has_cons.mp hs
  obtain ⟨z1,_⟩:=has_cons.mp z1
  have z2:=F.keep (J 2) _ p2 (by simp only [List.mem_cons,List.not_mem_nil,or_false,not_or];exact ⟨fun z=>n2 z.symm,fun z=>n3 z.symm⟩)
  exact ends0 (X:=X_iniF w.params sh st fe sh2 st2) rfl rfl E1.tauZ rfl (show Has s'.heap [J 0,J 1,J 2] _ from has_cons.mpr ⟨z0,has_cons.mpr ⟨z1,has_cons.mpr ⟨z2,rfl⟩⟩⟩)
    (after_trans F1 F fun b hb=>.inl (List.mem_append_left [J 2] hb))
end
section
open PySem PySem.W PySem.W.X PySem.Spec PySem.Calls
set_option maxHeartbeats 0
noncomputable def X_pop (dh:Int)(dt du:Nat)(vs:List Value)(e v:Nat):Spec:={ n0:=2,k:=0,nt:=0,d:=500,code:=fun J=>.call (.ref 78) ⟨[.ref (J 0)],[]⟩,pre:=fun J=>[accO (J 1) (vs++[.ref v]) e,accD dh dt du],res:=fun J Z=>.ok (.ret (.ref v)),post:=fun J Z=>[accO (J 1) vs (e+1),accD dh dt du],new:=fun J Z=>[] }
noncomputable def pop_hs (b1 b2:Bool):List Nat:=[0,0,3,3,1]
noncomputable def pop_cs (Pw:Params)(dh:Int)(dt du:Nat)(vs:List Value)(e v:Nat)(b1 b2:Bool):List Ev:=[evX (fun J Z=>X_popF dh dt du vs e (hsh Pw sSelf) (Z 0) 1 v) [2,0,1] 0 3 1]
theorem run_pop (dh:Int)(dt du:Nat)(vs:List Value)(e v:Nat)(Pw:Params):∀ (b1 b2:Bool) (J Z:Nu),RD (X_pop dh dt du vs e v) Pw b1 b2 14 (pop_hs b1 b2) (pop_cs Pw dh dt du vs e v b1 b2) [] [] J Z
  | true,b2,J,Z=>by kernel_rfl
  | false,b2,J,Z=>by kernel_rfl
theorem ok_pop (w:World){dh:Int}{dt du:Nat}{vs:List Value}{e v:Nat}(hl:vs.length<sizeLine):(X_pop dh dt du vs e v).Ok w :=
  ok_of_run (hs:=pop_hs (row1 w) (row2 w)) (cs:=pop_cs w.params dh dt du vs e v (row1 w) (row2 w)) (ns:=[]) (ts:=[]) (vc (fun J Z=>ok_popF w hl) rfl (va_nil)) rfl rfl (by decide) (show ∀ j∈([]:List Nat),2≤j by decide) (run_pop dh dt du vs e v w.params (row1 w) (row2 w))
noncomputable def X_popE (dh:Int)(dt du e:Nat):Spec:={ n0:=2,k:=1,nt:=2,d:=500,code:=fun J=>.call (.ref 78) ⟨[.ref (J 0)],[]⟩,pre:=fun J=>[accO (J 1) [] e,accD dh dt du],res:=fun J Z=>.ok (.ret (.ref (J 2))),post:=fun J Z=>[accO (J 1) [] e,accD dh dt du],new:=fun J Z=>[tupO [.str ⟨#[]⟩ (Z 0),.str ⟨#[]⟩ (Z 1)]] }
noncomputable def popE_hs (b1 b2:Bool):List Nat:=[0,0,3,3,1,3,1,0,0,0,1,0,0,0,1,0,0,0,0,1,2,0]
noncomputable def popE_cs (Pw:Params)(dh:Int)(dt du e:Nat)(b1 b2:Bool):List Ev:=[evX (fun J Z=>X_pcV (J 1) [] e 0) [0] 1 3 1]
theorem run_popE (dh:Int)(dt du e:Nat)(Pw:Params):∀ (b1 b2:Bool) (J Z:Nu),RD (X_popE dh dt du e) Pw b1 b2 51 (popE_hs b1 b2) (popE_cs Pw dh dt du e b1 b2) [3] [3,4] J Z
  | true,b2,J,Z=>by kernel_rfl
  | false,b2,J,Z=>by kernel_rfl
theorem ok_popE (w:World){dh:Int}{dt du e:Nat}  : (X_popE dh dt du e).Ok w :=
  ok_of_run (hs:=popE_hs (row1 w) (row2 w)) (cs:=popE_cs w.params dh dt du e (row1 w) (row2 w)) (ns:=[3]) (ts:=[3,4]) (vc (fun J Z=>ok_pcV w rfl) rfl (va_nil)) rfl rfl (by decide) (show ∀ j∈([3]:List Nat),2≤j by decide) (run_popE dh dt du e w.params (row1 w) (row2 w))
noncomputable def X_apush (dh:Int)(dt du:Nat)(vs:List Value)(e:Nat)(sg:Str)(tg:Nat)(fw:Str)(tw:Nat):Spec:={ n0:=2,k:=1,nt:=0,d:=500,code:=fun J=>.call (.ref 62) ⟨[.ref (J 0),.str fw tw,.str sg tg],[]⟩,pre:=fun J=>[accO (J 1) vs e,accD dh dt du],res:=fun J Z=>.ok (.ret .none),post:=fun J Z=>[accO (J 1) (vs++[.ref (J 2)]) (e+1),accD dh dt du],new:=fun J Z=>[tupO [.str fw tw,.str sg tg]] }
noncomputable def apush_hs (b1 b2:Bool):List Nat:=[0,0,3,3,3,3,3,3,1,3,1,0,0,0,1,0,0,0,1,0,0,0,1,2,3,3,1,0]
noncomputable def apush_cs (Pw:Params)(dh:Int)(dt du:Nat)(vs:List Value)(e:Nat)(sg:Str)(tg:Nat)(fw:Str)(tw:Nat)(b1 b2:Bool):List Ev:=[evX (fun J Z=>X_accApp (J 1) vs (.ref (J 3)) e) [0] 2 4 3]
theorem run_apush (dh:Int)(dt du:Nat)(vs:List Value)(e:Nat)(sg:Str)(tg:Nat)(fw:Str)(tw:Nat)(Pw:Params):∀ (b1 b2:Bool) (J Z:Nu),RD (X_apush dh dt du vs e sg tg fw tw) Pw b1 b2 55 (apush_hs b1 b2) (apush_cs Pw dh dt du vs e sg tg fw tw b1 b2) [3] [] J Z
  | true,b2,J,Z=>by kernel_rfl
  | false,b2,J,Z=>by kernel_rfl
theorem ok_apush (w:World){dh:Int}{dt du:Nat}{vs:List Value}{e:Nat}{sg:Str}{tg:Nat}{fw:Str}{tw:Nat}(hl:vs.length<sizeLine):(X_apush dh dt du vs e sg tg fw tw).Ok w :=
  ok_of_run (hs:=apush_hs (row1 w) (row2 w)) (cs:=apush_cs w.params dh dt du vs e sg tg fw tw (row1 w) (row2 w)) (ns:=[3]) (ts:=[]) (vc (fun J Z=>ok_accApp hl) rfl (va_nil)) rfl rfl (by decide) (show ∀ j∈([3]:List Nat),2≤j by decide) (run_apush dh dt du vs e sg tg fw tw w.params (row1 w) (row2 w))
noncomputable def X_mk (Pw:Params)  : Spec:={ n0:=0,k:=2,nt:=1,d:=500,code:=fun J=>.call (.ref 118) ⟨[],[]⟩,pre:=fun J=>[],res:=fun J Z=>.ok (.ret (.ref (J 0))),post:=fun J Z=>[],new:=fun J Z=>[accO (J 1) [] 0,accD (hsh Pw sInit) (Z 0) 305] }
noncomputable def mk_hs (b1 b2:Bool):List Nat:=[0,0,0,0,0,0,0,0,0,0,0,0,0,0,0,0,0,2,0,2,0,0,0,0,0,0,0,3,3,3,3,1]
noncomputable def mk_cs (Pw:Params)  (b1 b2:Bool):List Ev:=[evX (fun J Z=>X_iniF Pw (hsh Pw sSelf) (Z 0) 2 (hsh Pw sIniSz) (Z 1)) [2,1,0] 5 3 2]
theorem run_mk  (Pw:Params):∀ (b1 b2:Bool) (J Z:Nu),RD (X_mk Pw ) Pw b1 b2 52 (mk_hs b1 b2) (mk_cs Pw  b1 b2) [1,0] [2] J Z
  | true,b2,J,Z=>by kernel_rfl
  | false,b2,J,Z=>by kernel_rfl
theorem ok_mk (w:World)   : (X_mk w.params ).Ok w :=
  ok_of_run (hs:=mk_hs (row1 w) (row2 w)) (cs:=mk_cs w.params  (row1 w) (row2 w)) (ns:=[1,0]) (ts:=[2]) (vc (fun J Z=>ok_iniF w) rfl (va_nil)) rfl rfl (by decide) (show ∀ j∈([1,0]:List Nat),0≤j by decide) (run_mk  w.params (row1 w) (row2 w))
end
section
open PySem PySem.W PySem.W.X PySem.Spec PySem.Calls
set_option maxHeartbeats 400000
theorem str_ext {x y:Str}(h:x.cps.toList=y.cps.toList):x=y:=by
  cases x with | mk a=>cases y with | mk b=>cases a;cases b;cases h;rfl
theorem cps_append (x y:Str):(x++y).cps.toList=x.cps.toList++y.cps.toList:=by
  show (x.cps++y.cps).toList=_
  rw [Array.toList_append]
theorem len_eq (x:Str):x.length=x.cps.toList.length:=by show x.cps.size=_;rw [Array.length_toList]
theorem len_append (x y:Str):(x++y).length=x.length+y.length:=by rw [len_eq,cps_append,List.length_append,← len_eq,← len_eq]
noncomputable def sp (n:Nat):Str:=⟨(List.replicate n 32).toArray⟩
theorem sp_list (n:Nat):(sp n).cps.toList=List.replicate n 32:=rfl
theorem sp_len (n:Nat):(sp n).length=n:=by rw [len_eq,sp_list,List.length_replicate]
theorem con_made {w:World}{d:Nat}{id:String}{args:Args}{b:Builtin}{x:Str}{t:Tok}{c:Prop}[Decidable c]{y:Str}(hp:plainId id=true)(hb:entryFor table id=some b)(g:Gives (b args) (if c then .val (.str y t) else .str x))(hc:c→y=x)(hx:x.length≤sizeLine) :
    Con w d (.builtin id args) [] [] (fun r os nw=>(∃ t,r=.ok (.ret (.str x t)))∧os=[]∧nw=[]):=by
  by_cases h:c
  · rw [if_pos h,hc h] at g
    exact (con_val hp hb g).mono fun r os nw ⟨h1,h2,h3⟩=>⟨⟨t,h1⟩,h2,h3⟩
  · rw [if_neg h] at g
    exact con_str hp hb g hx
noncomputable def X_ne (x:Str)(t:Nat)(y:Str)(u:Nat)(b:Bool):Spec:=X_val (.builtin "str.__ne__" ⟨[.str x t,.str y u],[]⟩) (.bool b)
theorem ok_ne {w:World}{x y:Str}{t u:Nat}{b:Bool}(hb:(x.cps.toList != y.cps.toList)=b):(X_ne x t y u b).Ok w :=
  ok_val (con_val (by decide +kernel) (entryFor_of_tree (by kernel_rfl)) (hb▸gives_str_ne x y t u))
noncomputable def X_ltI (x:Int)(t:Nat)(y:Int)(u:Nat)(b:Bool):Spec:=X_val (.builtin "int.__lt__" ⟨[.int x t,.int y u],[]⟩) (.bool b)
theorem ok_ltI {w:World}{x y:Int}{t u:Nat}{b:Bool}(hb:decide (x<y)=b):(X_ltI x t y u b).Ok w :=
  ok_val (con_val (by decide +kernel) (entryFor_of_tree (by kernel_rfl)) (hb▸gives_int_lt x y t u))
noncomputable def X_lstrip (x:Str)(t u:Nat)(g:Str):Spec:=X_tok (.builtin "str.lstrip" ⟨[.str x t,.str ⟨#[32]⟩ u],[]⟩) (fun t=>.str g t)
theorem strip_lo (x:Str)(goes:Nat→Bool):PySem.stripped goes true false x=⟨(x.cps.toList.dropWhile goes).toArray⟩:=by
  refine str_ext ?_
  show (x.cps.extract (x.cps.toList.takeWhile goes).length x.length).toList=_
  rw [Array.toList_extract,List.extract_eq_take_drop,len_eq]
  show List.take _ (List.drop _ _)=List.dropWhile goes x.cps.toList
  have h:∀ l:List Nat,List.drop (l.takeWhile goes).length l=l.dropWhile goes:=by
    intro l
    induction l with
    | nil=>rfl
    | cons a l ih =>
      rw [List.takeWhile_cons,List.dropWhile_cons]
      split
      · rw [List.length_cons,List.drop_succ_cons,ih]
      · rfl
  rw [h,List.take_of_length_le]
  rw [← h,List.length_drop]
  exact Nat.le_refl _
theorem strip_same {x:Str}{goes:Nat→Bool}(h:stripSame goes true false x=true):x=PySem.stripped goes true false x:=by
  rw [strip_lo]
  refine str_ext ?_
  show _=List.dropWhile goes x.cps.toList
  unfold stripSame at h
  rw [Bool.and_eq_true] at h
  have h1:(x.cps.toList.takeWhile goes).length=0:=eq_of_beq h.1
  cases q:x.cps.toList with
  | nil=>rfl
  | cons a l =>
    rw [q,List.takeWhile_cons] at h1
    rw [List.dropWhile_cons]
    split
    · rename_i ha;rw [if_pos ha] at h1;cases h1
    · rfl
theorem ok_lstrip {w:World}{x g:Str}{t u:Nat}(hg:x.cps.toList.dropWhile (fun c=>(#[32]:Array Nat).contains c)=g.cps.toList)(hl:x.length≤sizeLine):(X_lstrip x t u g).Ok w:=by
  have e:PySem.stripped (#[32]:Array Nat).contains true false x=g:=by rw [strip_lo];exact str_ext hg
  refine ok_tok (con_made (c:=stripSame (#[32]:Array Nat).contains true false x=true) (y:=x) (t:=t) (by decide +kernel) (entryFor_of_tree (by kernel_rfl)) (e▸gives_str_lstrip_chars x ⟨#[32]⟩ t u) (fun h=>(strip_same h).trans e) ?_)
  have:g.cps.toList.length≤x.cps.toList.length:=by rw [← hg];exact (List.dropWhile_sublist _).length_le
  rw [len_eq] at hl ⊢;omega
theorem drop_sp {n:Nat}{l:List Nat}(h:l.head?≠some 32):(List.replicate n 32++l).dropWhile (fun c=>(#[32]:Array Nat).contains c)=l:=by
  induction n with
  | zero =>
    cases l with
    | nil=>rfl
    | cons a l =>
      show List.dropWhile _ (a::l)=_
      rw [List.dropWhile_cons,if_neg]
      intro hc
      have:a=32:=by simpa using hc
      exact h (by rw [this];rfl)
  | succ n ih =>
    rw [List.replicate_succ,List.cons_append,List.dropWhile_cons,if_pos (by simp)]
    exact ih
noncomputable def X_mul (n:Int)(t u:Nat):Spec:=X_tok (.builtin "str.__mul__" ⟨[.str ⟨#[32]⟩ t,.int n u],[]⟩) (fun t=>.str (sp n.toNat) t)
theorem fold_sp:∀ (n:Nat) (a:Array Nat),(List.replicate n (#[32]:Array Nat)).foldl (·++·) a=a++(List.replicate n 32).toArray
  | 0,a=>by simp
  | n+1,a=>by
    rw [List.replicate_succ,List.foldl_cons,fold_sp n]
    apply Array.toList_inj.mp
    simp [List.replicate_succ]
theorem ok_mul {w:World}{n:Int}{t u:Nat}(h0:0<n)(hl:n≤sizeLine):(X_mul n t u).Ok w:=by
  have hs:=sizeLine_eq
  have g:=gives_str_mul ⟨#[32]⟩ n t u (by simp;omega) (by
    intro _ _
    show ¬ ((1:Int)>_)
    have h1:(1:Int)*n≤2 ^ 63-1:=by omega
    have:=Int.le_ediv_of_mul_le h0 h1
    omega) (by
    intro _ _
    show decide (1*n.toNat>sizeLine)=false
    simp;omega)
  rw [if_neg (by omega)] at g
  refine ok_tok (con_made (c:=(n==1||(⟨#[32]⟩:Str).length==0)=true) (y:=⟨#[32]⟩) (t:=t) (x:=sp n.toNat) (b:=Builtin.«str.__mul__») (by decide +kernel) (entryFor_of_tree (by kernel_rfl)) ?_ (fun h=>?_) (by rw [sp_len];omega))
  · have:(⟨(List.replicate n.toNat (#[32]:Array Nat)).foldl (·++·) #[]⟩:Str)=sp n.toNat:=by
      rw [fold_sp];refine str_ext ?_;simp [sp]
    rw [← this];exact g
  · have:n=1:=by simpa [Str.length] using h
    rw [this];rfl
noncomputable def X_join2 (sep:Str)(t:Nat)(x:Str)(tx:Nat)(y:Str)(ty e:Nat):Spec:={ n0:=1,k:=0,nt:=1,d:=900,code:=fun J=>.builtin "str.join" ⟨[.str sep t,.ref (J 0)],[]⟩,pre:=fun _=>[lst [.str x tx,.str y ty] e],res:=fun _ Z=>.ok (.ret (.str (x++sep++y) (Z 0))),post:=fun _ _=>[lst [.str x tx,.str y ty] e],new:=fun _ _=>[] }
theorem ok_join2 {w:World}{sep x y:Str}{t tx ty e:Nat}(hl:x.length+sep.length+(y.length+sep.length)≤sizeLine):(X_join2 sep t x tx y ty e).Ok w:=by
  refine ok_of_con fun J=>?_
  refine con_builtin (b:=Builtin.«str.join») (by decide +kernel) (entryFor_of_tree (by kernel_rfl)) fun A s R sA hg hpre hnd hout hR=>?_
  have ho:=(has_cons.mp (show Has s.heap [J 0] [lst [.str x tx,.str y ty] e] from hpre)).1
  have ht:Builtin.Str.tooLong (([(x,tx),(y,ty)].map (·.1)).toArray.foldl (·+·.length+sep.length) 0)=false:=by
    show decide (0+x.length+sep.length+y.length+sep.length>sizeLine)=false
    simp;omega
  have gl2:Builtin.Str.glued sep [x,y]=x++sep++y:=by rfl
  have g:=meets_str_join_list sep t (J 0) [(x,tx),(y,ty)] ht
  refine g prg w A R s ⟨isList_lst ho,?_⟩
  show (Made.str (Builtin.Str.glued sep [x,y])).post _ s
  rw [gl2]
  exact ⟨by rw [len_append,len_append];omega,hR _ _ ⟨[lst [.str x tx,.str y ty] e],[],⟨[s.toks],rfl,rfl,rfl,rfl,rfl⟩,hpre,(fun _ h=>by cases h),List.nodup_nil,After.same hg (Nat.le_succ _)⟩⟩
end
section
open PySem PySem.W PySem.Sre
set_option maxHeartbeats 1000000
noncomputable def code1:Array Nat:=#[14,4,0,1,1,6,1,16,46,1]
noncomputable def m1 (x:Array Nat)(n s pc pos handed:Nat)(first:Bool)(fs:List Sre.Frame)(wt:Nat)(ans:Option Bool)(seen:Seen):M :=
  { code:=code1,text:=x,lim:=n,start:=s,lastStart:=n,mustAdvance:=false,pc:=pc,pos:=pos,handed:=handed,outermost:=first,marks:=#[],frames:=fs,weight:=wt,answer:=ans,seen:=seen }
noncomputable def fr1 (s:Nat)(first:Bool):List Sre.Frame:=[{ wait:=.nextStart,pc:=5,pos:=s,outermost:=first }]
noncomputable def A1 (x:Array Nat)(n s:Nat)(first:Bool)(seen:Seen):M:=m1 x n s 5 s s first (fr1 s first) 1 none seen
noncomputable def yes1 (x:Array Nat)(s:Nat):Bool:=s==0||x.getD (s-1) 0==10
theorem s1a (x:Array Nat)(n s:Nat)(first:Bool)(seen:Seen):M.step (A1 x n s first seen)=if yes1 x s=true then m1 x n s 7 s s first (fr1 s first) 1 none ((seen.add 6).add 44) else m1 x n s 5 s s first (fr1 s first) 1 (some false) ((seen.add 6).add 44):=by kernel_rfl
theorem s1b (x:Array Nat)(n s:Nat)(first:Bool)(seen:Seen):M.step (m1 x n s 7 s s first (fr1 s first) 1 none seen)=if s ≥ n then m1 x n s 7 s s first (fr1 s first) 1 (some false) (seen.add 16) else
    match x.getD s 0==46 with
    | false=>m1 x n s 7 s s first (fr1 s first) 1 (some false) (seen.add 16)
    | true=>m1 x n s 9 (s+1) s first (fr1 s first) 1 none (seen.add 16):=by kernel_rfl
theorem s1c (x:Array Nat)(n s:Nat)(first:Bool)(seen:Seen):M.runFor 3 (m1 x n s 9 (s+1) s first (fr1 s first) 1 none seen)={ m1 x n s 5 s (s+1) first [] 0 (some true) (seen.add 1) with outcome:=some .matched }:=by cases first<;>kernel_rfl
theorem s1d (x:Array Nat)(n s pc:Nat)(first:Bool)(seen:Seen):M.step (m1 x n s pc s s first (fr1 s first) 1 (some false) seen)=if s<n then A1 x n (s+1) false seen else m1 x n s 5 s s first [] 0 (some false) seen:=by kernel_rfl
theorem s1e (x:Array Nat)(n s:Nat)(first:Bool)(seen:Seen):M.runFor 1 (m1 x n s 5 s s first [] 0 (some false) seen)={ m1 x n s 5 s s first [] 0 (some false) seen with outcome:=some .failed }:=by kernel_rfl
theorem s1f (x:Array Nat)(n s:Nat):Sre.forSearch code1 x 0 s n false=if s>n||n-s<1 then { m1 x n s 5 s s true [] 0 (some false) (({}:Seen).add 14) with lastStart:=0 } else A1 x n s true (({}:Seen).add 14):=by kernel_rfl
noncomputable def code2:Array Nat:=#[14,9,4,1,2,16,10,16,13,0,7,7,16,13,16,10,15,18,5,16,10,15,13,11,16,13,5,5,0,16,10,1,15,2,0,1]
noncomputable def m2 (x:Array Nat)(n s pc pos handed:Nat)(outer:Bool)(fs:List Sre.Frame)(wt:Nat)(ans:Option Bool)(seen:Seen):M :=
  { code:=code2,text:=x,lim:=n,start:=s,lastStart:=n,mustAdvance:=false,pc:=pc,pos:=pos,handed:=handed,outermost:=outer,marks:=#[],frames:=fs,weight:=wt,answer:=ans,seen:=seen }
noncomputable def fb2 (s pc:Nat):List Sre.Frame:=[{ wait:=.nextBranch,pc:=pc,pos:=s,outermost:=true },{ wait:=.nextStart,pc:=10,pos:=s,outermost:=true }]
noncomputable def A2 (x:Array Nat)(n s:Nat)(seen:Seen):M:=m2 x n s 10 s s true [{ wait:=.nextStart,pc:=10,pos:=s,outermost:=true }] 1 none seen
theorem s2a (x:Array Nat)(n s:Nat)(seen:Seen):M.runFor 2 (A2 x n s seen)=if s ≥ n then m2 x n s 12 s s true (fb2 s 11) 2 (some false) ((seen.add 7).add 16) else
    match x.getD s 0==13 with
    | false=>m2 x n s 12 s s true (fb2 s 11) 2 (some false) ((seen.add 7).add 16)
    | true=>m2 x n s 14 (s+1) s true (fb2 s 11) 2 none ((seen.add 7).add 16):=by kernel_rfl
theorem s2b (x:Array Nat)(n s:Nat)(seen:Seen):M.step (m2 x n s 14 (s+1) s true (fb2 s 11) 2 none seen)=if s+1 ≥ n then m2 x n s 14 (s+1) s true (fb2 s 11) 2 (some false) (seen.add 16) else
    match x.getD (s+1) 0==10 with
    | false=>m2 x n s 14 (s+1) s true (fb2 s 11) 2 (some false) (seen.add 16)
    | true=>m2 x n s 16 (s+2) s true (fb2 s 11) 2 none (seen.add 16):=by kernel_rfl
noncomputable def done2 (x:Array Nat)(n s h:Nat)(seen:Seen):M:={ m2 x n s 10 s h true [] 0 (some true) seen with outcome:=some .matched }
theorem s2c (x:Array Nat)(n s:Nat)(seen:Seen):M.runFor 5 (m2 x n s 16 (s+2) s true (fb2 s 11) 2 none seen)=done2 x n s (s+2) ((seen.add 15).add 1):=by kernel_rfl
theorem s2d (x:Array Nat)(n s pc pos:Nat)(seen:Seen):M.runFor 2 (m2 x n s pc pos s true (fb2 s 11) 2 (some false) seen)=if s ≥ n then m2 x n s 19 s s true (fb2 s 18) 2 (some false) (seen.add 16) else
    match x.getD s 0==10 with
    | false=>m2 x n s 19 s s true (fb2 s 18) 2 (some false) (seen.add 16)
    | true=>m2 x n s 21 (s+1) s true (fb2 s 18) 2 none (seen.add 16):=by kernel_rfl
theorem s2e (x:Array Nat)(n s:Nat)(seen:Seen):M.runFor 5 (m2 x n s 21 (s+1) s true (fb2 s 18) 2 none seen)=done2 x n s (s+1) ((seen.add 15).add 1):=by kernel_rfl
theorem s2f (x:Array Nat)(n s:Nat)(seen:Seen):M.runFor 2 (m2 x n s 19 s s true (fb2 s 18) 2 (some false) seen)=if s ≥ n then m2 x n s 24 s s true (fb2 s 23) 2 (some false) (seen.add 16) else
    match x.getD s 0==13 with
    | false=>m2 x n s 24 s s true (fb2 s 23) 2 (some false) (seen.add 16)
    | true=>m2 x n s 26 (s+1) s true (fb2 s 23) 2 none (seen.add 16):=by kernel_rfl
noncomputable def fl2 (s:Nat):List Sre.Frame:={ wait:=.lookNot,pc:=26,pos:=s+1,outermost:=true }::fb2 s 23
theorem s2g (x:Array Nat)(n s:Nat)(seen:Seen):M.runFor 2 (m2 x n s 26 (s+1) s true (fb2 s 23) 2 none seen)=if s+1 ≥ n then m2 x n s 29 (s+1) (s+1) false (fl2 s) 3 (some false) ((seen.add 5).add 16) else
    match x.getD (s+1) 0==10 with
    | false=>m2 x n s 29 (s+1) (s+1) false (fl2 s) 3 (some false) ((seen.add 5).add 16)
    | true=>m2 x n s 31 (s+2) (s+1) false (fl2 s) 3 none ((seen.add 5).add 16):=by kernel_rfl
theorem s2h (x:Array Nat)(n s:Nat)(seen:Seen):M.runFor 6 (m2 x n s 29 (s+1) (s+1) false (fl2 s) 3 (some false) seen)=done2 x n s (s+1) ((seen.add 15).add 1):=by kernel_rfl
theorem s2i (x:Array Nat)(n s:Nat):Sre.forSearch code2 x 0 s n false=if s>n||n-s<1 then { m2 x n s 10 s s true [] 0 (some false) (({}:Seen).add 14) with lastStart:=0 } else
    match M.admitted { m2 x n s 10 s s true [] 0 none (({}:Seen).add 14) with } (n+1-s) s (({}:Seen).add 14) with
    | .ok (some p,seen)=>A2 x n p seen
    | .ok (none,seen)=>m2 x n s 10 s s true [] 0 (some false) seen
    | .error why=>M.stick (m2 x n s 10 s s true [] 0 none (({}:Seen).add 14)) why:=by kernel_rfl
theorem s2j (x:Array Nat)(n s pos fuel:Nat)(seen sn:Seen):M.admitted (m2 x n s 10 s s true [] 0 none sn) (fuel+1) pos seen=if pos ≥ n then .ok (none,seen) else
    if x.getD pos 0==10 then .ok (some pos,(seen.add 16)) else if x.getD pos 0==13 then .ok (some pos,((seen.add 16).add 16)) else M.admitted (m2 x n s 10 s s true [] 0 none sn) fuel (pos+1) (((seen.add 16).add 16).add 0):=by
  show (if pos ≥ n then _ else match inSet code2 (x.getD pos 0) 36 5 true seen with | .ok (true,seen)=>_ | .ok (false,seen)=>_ | .error why=>_)=_
  by_cases h:pos ≥ n
  · rw [if_pos h,if_pos h]
  · rw [if_neg h,if_neg h]
    rw [show inSet code2 (x.getD pos 0) 36 5 true seen=if x.getD pos 0==10 then .ok (true,seen.add 16) else if x.getD pos 0==13 then .ok (true,(seen.add 16).add 16) else .ok (false,((seen.add 16).add 16).add 0) from by kernel_rfl]
    cases x.getD pos 0==10<;>cases x.getD pos 0==13<;>rfl
theorem runFor_stop {m:M}(h:m.outcome.isSome=true):∀ n,M.runFor n m=m
  | 0=>rfl
  | n+1=>by rw [M.runFor,if_pos h]
theorem runFor_add:∀ (a b:Nat) (m:M),M.runFor (a+b) m=M.runFor b (M.runFor a m)
  | 0,b,m=>by rw [Nat.zero_add];rfl
  | a+1,b,m=>by
    rw [Nat.add_right_comm]
    by_cases h:m.outcome.isSome=true
    · rw [runFor_stop h,runFor_stop h,runFor_stop h]
    · rw [M.runFor,if_neg h,runFor_add a b,M.runFor,if_neg h]
def Ends1 (m:M)(k:Nat)(o:Option (Nat×Nat)):Prop:=∃ m',M.runFor k m=m'∧match o with
  | some (p,h)=>m'.outcome=some .matched∧m'.start=p∧m'.handed=h
  | none=>m'.outcome=some .failed
theorem Ends1.step {m m':M}{a b:Nat}{o:Option (Nat×Nat)}(e:M.runFor a m=m')(h:Ends1 m' b o):Ends1 m (a+b) o:=by
  obtain ⟨m'',h1,h2⟩:=h
  exact ⟨m'',by rw [runFor_add,e,h1],h2⟩
theorem runFor_one {m:M}(h:m.outcome=none):M.runFor 1 m=m.step:=by
  rw [M.runFor,if_neg (by rw [h];exact Bool.false_ne_true)];rfl
noncomputable def nx1 (x:Array Nat):Nat→Nat→Option (Nat×Nat)
  | 0,s=>none
  | d+1,s=>if yes1 x s&&x.getD s 0==46 then some (s,s+1) else nx1 x d (s+1)
theorem run1 (x:Array Nat)(n:Nat):∀ (d s:Nat) (first:Bool) (seen:Seen),n=s+d→∃ k,k≤5*d+5∧Ends1 (A1 x n s first seen) k (nx1 x d s)
  | 0,s,first,seen,hn=>by
    have hlast:∀ pc seen,Ends1 (m1 x n s pc s s first (fr1 s first) 1 (some false) seen) 2 none:=fun pc seen=>by
      refine Ends1.step (a:=1) (b:=1) ((runFor_one rfl).trans (s1d x n s pc first seen)) ?_
      rw [if_neg (by omega)]
      exact ⟨_,s1e x n s first seen,rfl⟩
    by_cases h:yes1 x s=true
    · refine ⟨1+(1+2),by omega,Ends1.step ((runFor_one rfl).trans ((s1a x n s first seen).trans (if_pos h))) (Ends1.step ((runFor_one rfl).trans ((s1b x n s first _).trans (if_pos (by omega)))) (hlast _ _))⟩
    · exact ⟨1+2,by omega,Ends1.step ((runFor_one rfl).trans ((s1a x n s first seen).trans (if_neg h))) (hlast _ _)⟩
  | d+1,s,first,seen,hn=>by
    have hnext:∀ pc seen,(yes1 x s&&x.getD s 0==46)=false→∃ k,k≤1+(5*d+5)∧Ends1 (m1 x n s pc s s first (fr1 s first) 1 (some false) seen) k (nx1 x (d+1) s):=fun pc seen hne=>by
      obtain ⟨k,hk,he⟩:=run1 x n d (s+1) false seen (by omega)
      refine ⟨1+k,by omega,Ends1.step ((runFor_one rfl).trans ((s1d x n s pc first seen).trans (if_pos (by omega)))) ?_⟩
      rw [nx1,hne,if_neg Bool.false_ne_true]
      exact he
    by_cases h:yes1 x s=true
    · cases q:x.getD s 0==46 with
      | true =>
        refine ⟨1+(1+3),by omega,Ends1.step ((runFor_one rfl).trans ((s1a x n s first seen).trans (if_pos h))) (Ends1.step ((runFor_one rfl).trans ((s1b x n s first _).trans (if_neg (by omega)))) ?_)⟩
        rw [q,nx1,h,q]
        show Ends1 _ 3 (some (s,s+1))
        exact ⟨_,s1c x n s first _,rfl,rfl,rfl⟩
      | false =>
        obtain ⟨k,hk,he⟩:=hnext 7 ((((seen.add 6).add 44)).add 16) (by rw [q,Bool.and_false])
        refine ⟨1+(1+k),by omega,Ends1.step ((runFor_one rfl).trans ((s1a x n s first seen).trans (if_pos h))) (Ends1.step ((runFor_one rfl).trans ((s1b x n s first _).trans (if_neg (by omega)))) ?_)⟩
        rw [q]
        exact he
    · obtain ⟨k,hk,he⟩:=hnext 5 ((seen.add 6).add 44) (by rw [Bool.eq_false_iff.mpr h,Bool.false_and])
      exact ⟨1+k,by omega,Ends1.step ((runFor_one rfl).trans ((s1a x n s first seen).trans (if_neg h))) he⟩
theorem found1 (x:Array Nat)(n s:Nat)(hs:s≤n):∃ k,k≤5*n+10∧Ends1 (Sre.forSearch code1 x 0 s n false) k (nx1 x (n-s) s):=by
  rw [s1f]
  by_cases h:n-s<1
  · rw [if_pos (by simp;omega)]
    have:n-s=0:=by omega
    rw [this]
    exact ⟨1,by omega,_,rfl,by show (M.runFor 1 _).outcome=some Outcome.failed;kernel_rfl⟩
  · rw [if_neg (by simp;omega)]
    obtain ⟨k,hk,he⟩:=run1 x n (n-s) s true (({}:Seen).add 14) (by omega)
    exact ⟨k,by omega,he⟩
noncomputable def hd2 (x:Array Nat)(n p:Nat):Nat:=if x.getD p 0==13&&decide (p+1<n)&&x.getD (p+1) 0==10 then p+2 else p+1
noncomputable def nx2 (x:Array Nat)(n:Nat):Nat→Nat→Option (Nat×Nat)
  | 0,s=>none
  | d+1,s=>if x.getD s 0==10||x.getD s 0==13 then some (s,hd2 x n s) else nx2 x n d (s+1)
theorem run2 (x:Array Nat)(n s:Nat)(seen:Seen)(hs:s<n)(hc:(x.getD s 0==10||x.getD s 0==13)=true):∃ k,k≤20∧Ends1 (A2 x n s seen) k (some (s,hd2 x n s)):=by
  have fin:∀ h seen,Ends1 (done2 x n s h seen) 0 (some (s,h)):=fun h seen=>⟨_,rfl,rfl,rfl,rfl⟩
  cases q:x.getD s 0==13 with
  | false =>
    rw [q,Bool.or_false] at hc
    have e:hd2 x n s=s+1:=by unfold hd2;rw [q];rfl
    rw [e]
    refine ⟨2+(2+(5+0)),by omega,Ends1.step (s2a x n s seen) ?_⟩
    rw [if_neg (by omega),q]
    refine Ends1.step (s2d x n s 12 s _) ?_
    rw [if_neg (by omega),hc]
    exact Ends1.step (s2e x n s _) (fin _ _)
  | true =>
    have nq:(x.getD s 0==10)=false:=by
      have:=eq_of_beq q;rw [this];rfl
    by_cases h1:s+1<n
    · cases q1:x.getD (s+1) 0==10 with
      | true =>
        have e:hd2 x n s=s+2:=by unfold hd2;rw [q,q1,decide_eq_true h1];rfl
        rw [e]
        refine ⟨2+(1+(5+0)),by omega,Ends1.step (s2a x n s seen) ?_⟩
        rw [if_neg (by omega),q]
        refine Ends1.step ((runFor_one rfl).trans (s2b x n s _)) ?_
        rw [if_neg (by omega),q1]
        exact Ends1.step (s2c x n s _) (fin _ _)
      | false =>
        have e:hd2 x n s=s+1:=by unfold hd2;rw [q,q1,Bool.and_false];rfl
        rw [e]
        refine ⟨2+(1+(2+(2+(2+(6+0))))),by omega,Ends1.step (s2a x n s seen) ?_⟩
        rw [if_neg (by omega),q]
        refine Ends1.step ((runFor_one rfl).trans (s2b x n s _)) ?_
        rw [if_neg (by omega),q1]
        refine Ends1.step (s2d x n s 14 (s+1) _) ?_
        rw [if_neg (by omega),nq]
        refine Ends1.step (s2f x n s _) ?_
        rw [if_neg (by omega),q]
        refine Ends1.step (s2g x n s _) ?_
        rw [if_neg (by omega),q1]
        exact Ends1.step (s2h x n s _) (fin _ _)
    · have e:hd2 x n s=s+1:=by unfold hd2;rw [q,decide_eq_false h1];rfl
      rw [e]
      refine ⟨2+(1+(2+(2+(2+(6+0))))),by omega,Ends1.step (s2a x n s seen) ?_⟩
      rw [if_neg (by omega),q]
      refine Ends1.step ((runFor_one rfl).trans (s2b x n s _)) ?_
      rw [if_pos (by omega)]
      refine Ends1.step (s2d x n s 14 (s+1) _) ?_
      rw [if_neg (by omega),nq]
      refine Ends1.step (s2f x n s _) ?_
      rw [if_neg (by omega),q]
      refine Ends1.step (s2g x n s _) ?_
      rw [if_pos (by omega)]
      exact Ends1.step (s2h x n s _) (fin _ _)
theorem adm2 (x:Array Nat)(n s:Nat)(sn:Seen):∀ (d pos:Nat) (seen:Seen),n=pos+d→∃ seen',M.admitted (m2 x n s 10 s s true [] 0 none sn) (d+1) pos seen=.ok ((nx2 x n d pos).map (·.1),seen')∧∀ p h,nx2 x n d pos=some (p,h)→p<n∧(x.getD p 0==10||x.getD p 0==13)=true∧h=hd2 x n p
  | 0,pos,seen,hn=>by
    rw [s2j,if_pos (by omega)]
    exact ⟨_,rfl,fun p h e=>by cases e⟩
  | d+1,pos,seen,hn=>by
    rw [s2j,if_neg (by omega),nx2]
    cases q:x.getD pos 0==10 with
    | true=>exact ⟨_,rfl,fun p h e=>by cases e;exact ⟨by omega,by rw [q];rfl,rfl⟩⟩
    | false =>
      cases q2:x.getD pos 0==13 with
      | true=>exact ⟨_,rfl,fun p h e=>by cases e;exact ⟨by omega,by rw [q2,Bool.or_true],rfl⟩⟩
      | false=>exact adm2 x n s sn d (pos+1) _ (by omega)
theorem found2 (x:Array Nat)(n s:Nat)(hs:s≤n):∃ k,k≤5*n+20∧Ends1 (Sre.forSearch code2 x 0 s n false) k (nx2 x n (n-s) s):=by
  rw [s2i]
  by_cases h:n-s<1
  · rw [if_pos (by simp;omega)]
    have:n-s=0:=by omega
    rw [this]
    exact ⟨1,by omega,_,rfl,by show (M.runFor 1 _).outcome=some Outcome.failed;kernel_rfl⟩
  · rw [if_neg (by simp;omega)]
    obtain ⟨seen',h1,h2⟩:=adm2 x n s (({}:Seen).add 14) (n-s) s (({}:Seen).add 14) (by omega)
    rw [show n+1-s=n-s+1 from by omega]
    show ∃ k,k≤5*n+20∧Ends1 (match M.admitted (m2 x n s 10 s s true [] 0 none (({}:Seen).add 14)) (n-s+1) s (({}:Seen).add 14) with
      | .ok (some p,seen)=>A2 x n p seen
      | .ok (none,seen)=>m2 x n s 10 s s true [] 0 (some false) seen
      | .error why=>M.stick (m2 x n s 10 s s true [] 0 none (({}:Seen).add 14)) why) k (nx2 x n (n-s) s)
    rw [h1]
    cases q:nx2 x n (n-s) s with
    | none=>exact ⟨1,by omega,_,rfl,by show (M.runFor 1 _).outcome=some Outcome.failed;kernel_rfl⟩
    | some o =>
      obtain ⟨p,hh⟩:=o
      obtain ⟨a,b,c⟩:=h2 p hh q
      subst c
      obtain ⟨k,hk,he⟩:=run2 x n p seen' a b
      exact ⟨k,by omega,he⟩
end
section
open PySem PySem.W PySem.W.X PySem.Spec PySem.Calls
open PySem.Builtin.Re
set_option maxHeartbeats 1000000
noncomputable def sqAt (P:Params)(a:Addr):Array Value:=match gl P a with
  | some ⟨_,_,.seq vs _,_⟩=>vs
  | _=>#[]
structure Pat where
  pa:Addr
  ca:Addr
  code:Array Nat
  nx:Array Nat→Nat→Nat→Nat→Option (Nat×Nat)
structure PatOk (p:Pat)(P:Params):Prop where
  h1:∃ o fs,gl P p.pa=some o∧o.data=.fields fs∧fs.getD 5 .none=.ref p.ca∧fs.getD 6 .none=.int 0 0∧fs.getD 2 .none=.int 0 0
  h2:∃ o vs n,gl P p.ca=some o∧o.data=.seq vs n∧(vs.map reRawOf).map (·.toNat)=p.code
  found:∀ x n s,s≤n→∃ k,k≤5*n+20∧Ends1 (Sre.forSearch p.code x 0 s n false) k (p.nx x n (n-s) s)
  nxs:∀ x n d s p' h,n=s+d→p.nx x n d s=some (p',h)→s≤p'∧p'<h∧h≤n
section
variable {w:World}{A:Around}{E:Value→Shared→Prop}{s:Shared}
theorem wp_drive {Q:Sre.M→Shared→Prop}:∀ (turns k:Nat) (m:Sre.M),0<turns→k≤4*turns→(Sre.M.runFor k m).outcome.isSome=true→Q (Sre.M.runFor k m) s→wpAny (model prg w) A (reDrive turns m) Q E s:=by
  intro turns
  induction turns with
  | zero=>intro k m h0;exact absurd h0 (Nat.lt_irrefl 0)
  | succ turns ih =>
    intro k m _ hk ho hq
    have same:∀ j,(Sre.M.runFor 4 m).outcome.isSome=true∨j≤4→(Sre.M.runFor j m).outcome.isSome=true→Sre.M.runFor 4 m=Sre.M.runFor j m:=fun j hj hs=>by
      by_cases h:j≤4
      · rw [show 4=j+(4-j) from by omega,runFor_add,runFor_stop hs]
      · have h4:(Sre.M.runFor 4 m).outcome.isSome=true:=hj.resolve_right h
        rw [show j=4+(j-4) from by omega,runFor_add,runFor_stop h4]
    show wpAny _ _ (if (Sre.M.runFor 4 m).outcome.isSome=true then pure (Sre.M.runFor 4 m) else do rule "sre.turn";reDrive turns (Sre.M.runFor 4 m)) Q E s
    by_cases h:(Sre.M.runFor 4 m).outcome.isSome=true
    · rw [if_pos h]
      exact wpAny_pure (by rw [same k (.inl h) ho];exact hq)
    · rw [if_neg h]
      by_cases h4:k≤4
      · exact absurd (by rw [same k (.inr h4) ho];exact ho) h
      · refine wpAny_bind (wpAny_rule ?_)
        have e:Sre.M.runFor (k-4) (Sre.M.runFor 4 m)=Sre.M.runFor k m:=by rw [← runFor_add];congr 1;omega
        exact ih (k-4) _ (by omega) (by omega) (by rw [e];exact ho) (by rw [e];exact hq)
theorem wp_found {m:Sre.M}{k:Nat}{o:Option (Nat×Nat)}{Q:Option Sre.M→Shared→Prop}(he:Ends1 m k o)(hk:k≤2 ^ 60)
    (h:match o with | some (p,h)=>∀ m':Sre.M,m'.start=p→m'.handed=h→Q (some m') s | none=>Q none s):wpAny (model prg w) A (reRunToEnd m) Q E s:=by
  obtain ⟨m',h1,h2⟩:=he
  unfold reRunToEnd
  have ho:m'.outcome.isSome=true:=by
    cases o with
    | none=>rw [h2];rfl
    | some q=>rw [h2.1];rfl
  refine wpAny_bind (wp_drive (2 ^ 64) k m (by decide) (by omega) (by rw [h1];exact ho) ?_)
  rw [h1]
  refine wpAny_bind (wpAny_mono (Q:=fun _ s'=>s'=s) (E:=E) (wpAny_forIn_list _ (fun _ _ s'=>s'=s) (fun _ s'=>s'=s) ?_ (fun _ _ h=>h) _ _ rfl) ?_ fun _ _ x=>x)
  · rintro i rest b s' rfl
    split
    · exact wpAny_bind (wpAny_rule (wpAny_pure rfl))
    · exact wpAny_pure rfl
  · rintro _ s' rfl
    cases o with
    | none =>
      have h2:m'.outcome=some .failed:=h2
      rw [h2]
      exact wpAny_pure h
    | some q =>
      obtain ⟨p,hh⟩:=q
      obtain ⟨a,b,c⟩:=h2
      rw [a]
      exact wpAny_pure (h m' b c)
theorem wp_target {p:Pat}(O:PatOk p w.params)(hg:∀ a o,gl w.params a=some o→s.heap.get? a=some o){x:Array Nat}{tx:Nat}{Q:ReTarget→Shared→Prop}
    (h:Q { pattern:=.ref p.pa,string:=.str ⟨x⟩ tx,code:=p.code,text:=x,kind:=0,groups:=0,pos:=0,lim:=x.size } s):wpAny (model prg w) A (reWholeTarget (.ref p.pa) (.str ⟨x⟩ tx)) Q E s:=by
  obtain ⟨o,fs,ho,hd,f5,f6,f2⟩:=O.h1
  obtain ⟨o',vs,n,ho',hd',hv⟩:=O.h2
  unfold reWholeTarget fieldsOf
  refine wpAny_bind (wpAny_bind (wpAny_load (hg _ _ ho) ?_))
  rw [hd]
  refine wpAny_pure ?_
  unfold reTextOf asStr?
  refine wpAny_bind (wpAny_bind (wpAny_pure (wpAny_pure ?_)))
  dsimp only
  rw [f6]
  unfold reNoCollectionInside reRawItems seqItems?
  rw [f5]
  simp only [reRawNat,f2]
  rw [if_neg (by decide),if_neg (by decide),if_neg (by decide)]
  refine wpAny_bind (wpAny_pure (wpAny_bind (wpAny_bind (wpAny_bind (wpAny_load (hg _ _ ho') ?_)))))
  rw [hd']
  refine wpAny_pure (wpAny_pure (wpAny_pure ?_))
  rw [show (some vs).getD #[]=vs from rfl,hv]
  exact h
end
noncomputable def outN (p:Pat)(r:List Nat)(x:Array Nat):Nat→Nat→List Nat
  | 0,s=>(x.extract s x.size).toList
  | f+1,s=>match p.nx x x.size (x.size-s) s with
    | none=>(x.extract s x.size).toList
    | some (q,h)=>(x.extract s q).toList++r++outN p r x f h
noncomputable def catS (ps:List (Str×Tok)):List Nat:=(ps.map fun q=>q.1.cps.toList).flatten
theorem glued_nil:∀ (ps:List (Str×Tok)),(Builtin.Str.glued ⟨#[]⟩ (ps.map (·.1))).cps.toList=catS ps
  | []=>rfl
  | q::ps=>by
    unfold Builtin.Str.glued
    show (List.foldl (fun acc (p:Str)=>acc++#[]++p.cps) q.1.cps (ps.map (·.1))).toList=_
    have h:∀ (l:List (Str×Tok)) (a:Array Nat),(List.foldl (fun acc (p:Str)=>acc++#[]++p.cps) a (l.map (·.1))).toList=a.toList++catS l:=by
      intro l
      induction l with
      | nil=>intro a;simp [catS]
      | cons y l ih=>intro a;rw [List.map_cons,List.foldl_cons,ih];simp [catS]
    rw [h]
    simp [catS]
theorem join_len:∀ (ps:List (Str×Tok)) (k:Nat),(ps.map (·.1)).toArray.foldl (fun a (y:Str)=>a+y.length+(⟨#[]⟩:Str).length) k=k+(catS ps).length:=by
  intro ps k
  rw [List.foldl_toArray]
  induction ps generalizing k with
  | nil=>simp [catS]
  | cons y l ih =>
    rw [List.map_cons,List.foldl_cons,ih]
    simp only [catS,List.map_cons,List.flatten_cons,List.length_append]
    rw [len_eq y.1]
    show k+_+0+_=_
    omega
structure Kept (l:Addr)(s s':Shared):Prop where
  keep:∀ b o,b≠l→s.heap.get? b=some o→s'.heap.get? b=some o
  size:s.heap.objs.size≤s'.heap.objs.size
  gens:s'.gens=s.gens
  drawn:s'.drawn=s.drawn
  os:s'.os=s.os
  toks:s.toks≤s'.toks
theorem Kept.trans {l:Addr}{s s1 s2:Shared}(a:Kept l s s1)(b:Kept l s1 s2):Kept l s s2 :=
  ⟨fun x o hx e=>b.keep x o hx (a.keep x o hx e),Nat.le_trans a.size b.size,b.gens.trans a.gens,b.drawn.trans a.drawn,b.os.trans a.os,Nat.le_trans a.toks b.toks⟩
theorem kept_toks (l:Addr)(s:Shared){t:Nat}(h:s.toks≤t):Kept l s { s with toks:=t }:=⟨fun _ _ _ e=>e,Nat.le_refl _,rfl,rfl,rfl,h⟩
theorem strValues_append (a b:List (Str×Tok)):strValues (a++b)=strValues a++strValues b:=List.map_append ..
theorem wp_piece {w:World}{A:Around}{E:Value→Shared→Prop}{s:Shared}{l:Addr}{ps:List (Str×Tok)}{e:Nat}{y:Str}{t:Tok}{Q:Unit→Shared→Prop}(ho:s.heap.get? l=some (lst (strValues ps) e))(hz:ps.length<sizeLine)
    (h:∀ s',s'.heap.get? l=some (lst (strValues (ps++[(y,t)])) (e+1))→Kept l s s'→Q () s'):wpAny (model prg w) A (updateSeq l (·.push (.str y t))) Q E s:=by
  have hl:(strValues ps).length=ps.length:=List.length_map ..
  refine wpAny_updateSeq ho rfl (h _ ?_ ?_) (by simp [hl];omega) (by simp [hl];omega)
  · have hs:Heap.SameBut l s.heap (s.heap.update l (Obj.mapSeq (·.push (.str y t)))):=Heap.SameBut.update ..
    have hm:Obj.mapSeq (·.push (Value.str y t)) (lst (strValues ps) e)=lst (strValues (ps++[(y,t)])) (e+1):=mapSeq_lst (by rw [strValues_append];simp [strValues]) (by rw [strValues_append];simp [strValues])
    have ge:(s.heap.update l (Obj.mapSeq (·.push (.str y t)))).get? l=some (Obj.mapSeq (·.push (.str y t)) (lst (strValues ps) e)):=by first | exact Heap.get?_update_self _ ho (by rw [hm];rfl) | exact Heap.get?_update_self _ ho rfl
    rw [← hm];exact ge
  · have hs:Heap.SameBut l s.heap (s.heap.update l (Obj.mapSeq (·.push (.str y t)))):=Heap.SameBut.update ..
    exact ⟨fun b o hb e=>(hs.2 b hb).trans e,Nat.le_of_eq hs.1.symm,rfl,rfl,rfl,Nat.le_refl _⟩
theorem catS_append (a b:List (Str×Tok)):catS (a++b)=catS a++catS b:=by simp [catS]
theorem catS_one (y:Str)(t:Tok):catS [(y,t)]=y.cps.toList:=by simp [catS]
theorem code_entry {w:World}{A:Around}{id:String}{args:Args}{b:Builtin}{R:Result→Shared→Prop}{s:Shared}(hp:plainId id=true)(hb:entryFor table id=some b)
    (h:wpAny (model prg w) A.in1 (b args) (fun fin s'=>match fin with | .done f=>R (.ok f) s' | .again c'=>c'.quiet=true∧codeAny (model prg w) A c' R s') (fun e s'=>R (.error e) s') s):codeAny (model prg w) A (.builtin id args) R s:=by
  refine codeAny_of_tree ?_
  rw [Around.under_plainId hp]
  show wpAny _ _ (match entryFor table id with | some b=>b args | none=>unsupported ((withoutEnding? id "#data").getD id)) _ _ s
  rw [hb]
  exact h
theorem join_check (y:Str)(t:Tok)(l:Addr):checkBuiltinCall "str.join" ⟨[.str y t,.ref l],[]⟩=pure ():=by kernel_rfl
noncomputable abbrev subArgs (p:Pat)(x:Array Nat)(tx:Tok)(r:Str)(tr:Tok)(m:Int)(s:Nat)(l:Addr):Args:=⟨[.ref p.pa,.str ⟨x⟩ tx,.str r tr,rawInt 0,rawInt 0,rawInt m,rawInt s,rawInt s,.bool false,.ref l,.bool false],[]⟩
theorem wp_slice {w:World}{A:Around}{E:Value→Shared→Prop}{s:Shared}{x:Array Nat}{a b:Nat}{Q:Value→Shared→Prop}(hx:x.size≤2 ^ 20)(h:∀ t s',s'.heap=s.heap→Kept 0 s s'→Q (.str ⟨x.extract a b⟩ t) s'):wpAny (model prg w) A (reSlice x 0 a b) Q E s:=by
  have hs:=sizeLine_eq
  unfold reSlice
  rw [if_pos (by decide)]
  refine wpAny_mkStr (h _ _ rfl (kept_toks 0 s (Nat.le_succ _))) ?_
  show (x.extract a b).size≤sizeLine
  rw [Array.size_extract];omega
theorem Kept.any {l:Addr}{s s':Shared}(h:Kept 0 s s')(e:s'.heap=s.heap):Kept l s s':=⟨fun b o _ z=>by rw [e];exact z,h.size,h.gens,h.drawn,h.os,h.toks⟩
theorem call_join {w:World}{A:Around}{E:Value→Shared→Prop}{s:Shared}{l:Addr}{ps:List (Str×Tok)}{e:Nat}{tj:Tok}{y:Str}(hy:y=⟨#[]⟩)(ho:s.heap.get? l=some (lst (strValues ps) e))(hz:(catS ps).length≤sizeLine){Q:Value→Shared→Prop}
    (h:∀ t s',s'.heap=s.heap→Kept 0 s s'→Q (.str ⟨(catS ps).toArray⟩ t) s'):wpAny (model prg w) A (call (.builtin "str.join") [.str y tj,.ref l]) Q E s:=by
  subst hy
  refine wpAny_call (codeAny_call_builtin_code (plainId_quiet (by decide +kernel) _) (wpAny_of_eq (join_check _ _ _) ?_))
  refine code_entry (b:=Builtin.«str.join») (by decide +kernel) (entryFor_of_tree (by kernel_rfl)) ?_
  have ht:Builtin.Str.tooLong ((ps.map (·.1)).toArray.foldl (fun a (y:Str)=>a+y.length+(⟨#[]⟩:Str).length) 0)=false:=by
    rw [join_len]
    show decide (0+(catS ps).length>sizeLine)=false
    simp;omega
  refine meets_str_join_list ⟨#[]⟩ tj l ps ht prg w A (fun r s'=>match r with | .ok (.ret v)=>Q v s' | .ok _=>False | .error e=>E e s') s ⟨isList_lst ho,?_⟩
  have eg:∀ q,catS [q]=q.1.cps.toList:=fun q=>by simp [catS]
  have gz:∀ ps:List (Str×Tok),(Builtin.Str.glued ⟨#[]⟩ (ps.map (·.1)))=⟨(catS ps).toArray⟩:=fun ps=>str_ext (glued_nil ps)
  match ps,hz,h with
  | [q],hz,h =>
    show (Made.val (.str q.1 q.2)).post _ s
    have:=h q.2 s rfl (kept_toks 0 s (Nat.le_refl _))
    rw [eg q] at this
    exact this
  | [],hz,h =>
    show (Made.str (Builtin.Str.glued ⟨#[]⟩ (([]:List (Str×Tok)).map (·.1)))).post _ s
    rw [gz]
    exact ⟨hz,h _ _ rfl (kept_toks 0 s (Nat.le_succ _))⟩
  | q::q2::qs,hz,h =>
    show (Made.str (Builtin.Str.glued ⟨#[]⟩ ((q::q2::qs).map (·.1)))).post _ s
    rw [gz]
    exact ⟨hz,h _ _ rfl (kept_toks 0 s (Nat.le_succ _))⟩
theorem sub_turn {w:World}{p:Pat}(O:PatOk p w.params){x:Array Nat}{r:Str}{tx tr:Tok}{l:Addr}(hx:x.size≤2 ^ 20){R:Result→Shared→Prop}
    {s:Nat} {m:Int} {ps:List (Str×Tok)} {e:Nat} {A:Around} {st:Shared} (hs:s≤x.size) (hc:ps.length+2<sizeLine) 
      (hg:∀ a o,gl w.params a=some o→st.heap.get? a=some o) (hl:gl w.params l=none) (ho:st.heap.get? l=some (lst (strValues ps) e))
      (K0:p.nx x x.size (x.size-s) s=none→(catS ps++(x.extract s x.size).toList).length≤sizeLine∧∀ t st',Kept l st st'→R (.ok (.ret (.str ⟨(catS ps++(x.extract s x.size).toList).toArray⟩ t))) st')
      (K1:∀ q h,p.nx x x.size (x.size-s) s=some (q,h)→s≤q→q<h→h≤x.size→∀ ps' e' st',catS ps'=catS ps++(x.extract s q).toList++r.cps.toList→ps'.length≤ps.length+2→Kept l st st'→st'.heap.get? l=some (lst (strValues ps') e')→codeAny (model prg w) A (.builtin "re.Pattern.sub.loop" (subArgs p x tx r tr (m+1) h l)) R st') :
      codeAny (model prg w) A (.builtin "re.Pattern.sub.loop" (subArgs p x tx r tr m s l)) R st:=by
  have hsl:=sizeLine_eq
  refine code_entry (b:=Builtin.«re.Pattern.sub.loop») (by decide +kernel) (entryFor_of_tree (by kernel_rfl)) ?_
  unfold Builtin.«re.Pattern.sub.loop» subArgs rawInt
  dsimp only
  refine wpAny_bind (wp_target O hg ?_)
  rw [if_pos (by decide)]
  unfold reLiteralCannotBeTurned asStr?
  refine wpAny_bind (wpAny_bind (wpAny_pure ?_))
  rw [if_neg (by simp)]
  refine wpAny_pure ?_
  rw [if_neg (by simp)]
  unfold reNextFound
  obtain ⟨k,hk,he⟩:=O.found x x.size s hs
  refine wpAny_bind (wp_found he (by omega) ?_)
  cases q:p.nx x x.size (x.size-s) s with
  | none =>
    obtain ⟨hz,K⟩:=K0 q
    have tail:∀ (ps1:List (Str×Tok)) (e1:Nat) (st1:Shared),catS ps1=catS ps++(x.extract s x.size).toList→Kept l st st1→st1.heap.get? l=some (lst (strValues ps1) e1) →
        wpAny (model prg w) A.in1 (do
          let joiner ← reSlice x 0 0 0
          let y ← seqItems? (Value.ref l)
          if (y.getD #[]).isEmpty=true then do
            let text ← pure joiner
            ret text
          else do
            let text ← call (Value.builtin "str.join") [joiner,Value.ref l]
            ret text) (fun fin s'=>match fin with | .done f=>R (.ok f) s' | .again c'=>c'.quiet=true∧codeAny (model prg w) A c' R s') (fun e s'=>R (.error e) s') st1:=by
      intro ps1 e1 st1 hcat hk1 ho1
      refine wpAny_bind (wp_slice hx fun t s2 e2 k2=>?_)
      have ho2:s2.heap.get? l=some (lst (strValues ps1) e1):=by rw [e2];exact ho1
      unfold seqItems?
      refine wpAny_bind (wpAny_bind (wpAny_load ho2 ?_))
      refine wpAny_pure ?_
      have ey:(⟨x.extract 0 0⟩:Str)=⟨#[]⟩:=str_ext (by simp)
      by_cases hem:ps1=[]
      · subst hem
        rw [if_pos (by rfl)]
        refine wpAny_bind (wpAny_pure (wpAny_pure ?_))
        have:=K t s2 (hk1.trans (k2.any e2))
        rw [← hcat] at this
        rw [ey];exact this
      · rw [if_neg (by
          show ¬ (strValues ps1).toArray.isEmpty=true
          cases ps1 with
          | nil=>exact absurd rfl hem
          | cons a b=>simp [strValues])]
        refine wpAny_bind (call_join ey ho2 (by rw [hcat];exact hz) fun t2 s3 e3 k3=>wpAny_pure ?_)
        have:=K t2 s3 ((hk1.trans (k2.any e2)).trans (k3.any e3))
        rw [← hcat] at this
        exact this
    show wpAny _ _ _ _ _ st
    dsimp only
    rw [show ((s:Int)).toNat=s from rfl]
    by_cases hlt:s<x.size
    · rw [if_pos hlt]
      refine wpAny_bind (wp_slice hx fun t s2 e2 k2=>?_)
      refine wpAny_bind (wp_piece (ps:=ps) (e:=e) (by rw [e2];exact ho) (by omega) fun s3 ho3 k3=>?_)
      exact tail _ _ s3 (by rw [catS_append,catS_one]) ((k2.any e2).trans k3) ho3
    · rw [if_neg hlt]
      refine tail ps e st ?_ (kept_toks l st (Nat.le_refl _)) ho
      rw [show s=x.size from by omega];simp
  | some o =>
    obtain ⟨q',h⟩:=o
    obtain ⟨b1,b2,b3⟩:=O.nxs x x.size _ s q' h (by omega) q
    have K:=K1 q' h q b1 b2 b3
    intro m' hm1 hm2
    show wpAny _ _ _ _ _ st
    dsimp only
    rw [show ((s:Int)).toNat=s from rfl,hm1,hm2,show (h==q')=false from by simp;omega]
    have push:∀ (ps1:List (Str×Tok)) (e1:Nat) (st1:Shared),catS ps1=catS ps++(x.extract s q').toList→ps1.length≤ps.length+1→Kept l st st1→st1.heap.get? l=some (lst (strValues ps1) e1) →
        wpAny (model prg w) A.in1 (do
          updateSeq l fun x=>x.push (.str r tr)
          again (Code.builtin "re.Pattern.sub.loop" (subArgs p x tx r tr (m+1) h l))) (fun fin s'=>match fin with | .done f=>R (.ok f) s' | .again c'=>c'.quiet=true∧codeAny (model prg w) A c' R s') (fun e s'=>R (.error e) s') st1:=by
      intro ps1 e1 st1 hcat hlen hk1 ho1
      refine wpAny_bind (wp_piece ho1 (by omega) fun s3 ho3 k3=>wpAny_pure ⟨plainId_quiet (by decide +kernel) _,?_⟩)
      exact K _ _ s3 (by rw [catS_append,catS_one,hcat]) (by rw [List.length_append];simp;omega) (hk1.trans k3) ho3
    by_cases hlt:s<q'
    · rw [if_pos hlt]
      refine wpAny_bind (wp_slice hx fun t s2 e2 k2=>?_)
      refine wpAny_bind (wp_piece (ps:=ps) (e:=e) (by rw [e2];exact ho) (by omega) fun s3 ho3 k3=>?_)
      rw [if_pos (by decide)]
      refine wpAny_bind (wpAny_pure ?_)
      rw [if_pos (by simp)]
      exact push _ _ s3 (by rw [catS_append,catS_one]) (by simp) ((k2.any e2).trans k3) ho3
    · rw [if_neg hlt,if_pos (by decide)]
      refine wpAny_bind (wpAny_pure ?_)
      rw [if_pos (by simp)]
      refine push ps e st ?_ (by omega) (kept_toks l st (Nat.le_refl _)) ho
      rw [show s=q' from by omega];simp
theorem sub_loop {w:World}{p:Pat}(O:PatOk p w.params){x:Array Nat}{r:Str}{tx tr:Tok}{l:Addr}(hx:x.size≤2 ^ 20){R:Result→Shared→Prop}{A:Around}(hl:gl w.params l=none) :
    ∀ (f s:Nat) (m:Int) (ps:List (Str×Tok)) (e:Nat) (st:Shared),x.size-s≤f→s≤x.size→ps.length+2*(x.size-s)+2<sizeLine→(catS ps++outN p r.cps.toList x f s).length≤sizeLine →
      (∀ a o,gl w.params a=some o→st.heap.get? a=some o)→st.heap.get? l=some (lst (strValues ps) e) →
      (∀ t st',Kept l st st'→R (.ok (.ret (.str ⟨(catS ps++outN p r.cps.toList x f s).toArray⟩ t))) st') →
      codeAny (model prg w) A (.builtin "re.Pattern.sub.loop" (subArgs p x tx r tr m s l)) R st
  | 0,s,m,ps,e,st,hf,hs,hc,hz,hg,ho,K=>sub_turn O hx hs (by omega) hg hl ho (fun _=>⟨hz,K⟩) fun q h _ _ _ _=>by omega
  | f+1,s,m,ps,e,st,hf,hs,hc,hz,hg,ho,K=>by
    refine sub_turn O hx hs (by omega) hg hl ho (fun hn=>?_) fun q h hn h1 h2 h3 ps' e' st' hcat hlen hk ho'=>?_
    · rw [outN,hn] at hz K
      exact ⟨hz,K⟩
    · rw [outN,hn] at hz K
      have key:catS ps++((x.extract s q).toList++r.cps.toList++outN p r.cps.toList x f h)=catS ps'++outN p r.cps.toList x f h:=by rw [hcat];simp
      dsimp only at hz K
      rw [key] at hz K
      exact sub_loop O hx hl f h (m+1) ps' e' st' (by omega) h3 (by omega) hz (fun a o z=>hk.keep a o (fun y=>by rw [y,hl] at z;cases z) (hg a o z)) ho' fun t st'' hk'=>K t st'' (hk.trans hk')
noncomputable def pat1:Pat:={ pa:=169,ca:=168,code:=code1,nx:=fun x n=>nx1 x }
noncomputable def pat2:Pat:={ pa:=174,ca:=173,code:=code2,nx:=fun x n=>nx2 x n }
theorem nx1_in (x:Array Nat):∀ (d s p h:Nat),nx1 x d s=some (p,h)→s≤p∧p<s+d∧h=p+1∧yes1 x p=true∧x.getD p 0=46
  | d+1,s,p,h,e=>by
    rw [nx1] at e
    split at e
    · rename_i hy
      cases e
      rw [Bool.and_eq_true] at hy
      exact ⟨Nat.le_refl _,by omega,rfl,hy.1,eq_of_beq hy.2⟩
    · have:=nx1_in x d (s+1) p h e
      exact ⟨by omega,by omega,this.2.2⟩
theorem nx2_in (x:Array Nat)(n:Nat):∀ (d s p h:Nat),nx2 x n d s=some (p,h)→s≤p∧p<s+d∧h=hd2 x n p
  | d+1,s,p,h,e=>by
    rw [nx2] at e
    split at e
    · cases e
      exact ⟨Nat.le_refl _,by omega,rfl⟩
    · have:=nx2_in x n d (s+1) p h e
      exact ⟨by omega,by omega,this.2.2⟩
theorem hd2_le (x:Array Nat)(n p:Nat)(h:p<n):p<hd2 x n p∧hd2 x n p≤n:=by
  unfold hd2
  split
  · rename_i hc
    rw [Bool.and_eq_true,Bool.and_eq_true] at hc
    have:=of_decide_eq_true hc.1.2
    omega
  · omega
theorem flds (P:Params)(a:Addr)(h:(gl P a).map (·.data)=some (.fields (fdAt P a)))(c:Addr)(h5:(fdAt P a).getD 5 .none=.ref c)(h6:(fdAt P a).getD 6 .none=.int 0 0)(h2:(fdAt P a).getD 2 .none=.int 0 0) :
    ∃ o fs,gl P a=some o∧o.data=.fields fs∧fs.getD 5 .none=.ref c∧fs.getD 6 .none=.int 0 0∧fs.getD 2 .none=.int 0 0:=by
  obtain ⟨o,ho,hd⟩:=obj_of h
  exact ⟨o,_,ho,hd,h5,h6,h2⟩
theorem seqs (P:Params)(a:Addr)(c:Array Nat)(h:(gl P a).map (·.data)=some (.seq (sqAt P a) 0))(hv:((sqAt P a).map reRawOf).map (·.toNat)=c):∃ o vs n,gl P a=some o∧o.data=.seq vs n∧(vs.map reRawOf).map (·.toNat)=c:=by
  obtain ⟨o,ho,hd⟩:=obj_of h
  exact ⟨o,_,_,ho,hd,hv⟩
theorem sq168 (P:Params):(sqAt P 168).toList.map (fun v=>(reRawOf v).toNat)=code1.toList:=by kernel_rfl
theorem sq173 (P:Params):(sqAt P 173).toList.map (fun v=>(reRawOf v).toNat)=code2.toList:=by kernel_rfl
theorem map_map_of {vs:Array Value}{c:Array Nat}(h:vs.toList.map (fun v=>(reRawOf v).toNat)=c.toList):(vs.map reRawOf).map (·.toNat)=c:=by
  apply Array.toList_inj.mp
  rw [← h]
  simp
theorem ok_pat1 (P:Params):PatOk pat1 P where
  h1:=flds P 169 (by kernel_rfl) 168 (by kernel_rfl) (by kernel_rfl) (by kernel_rfl)
  h2:=seqs P 168 code1 (by kernel_rfl) (map_map_of (sq168 P))
  found:=fun x n s hs=>by
    obtain ⟨k,hk,he⟩:=found1 x n s hs
    exact ⟨k,by omega,he⟩
  nxs:=fun x n d s p h hn e=>by
    have:=nx1_in x d s p h e
    omega
theorem ok_pat2 (P:Params):PatOk pat2 P where
  h1:=flds P 174 (by kernel_rfl) 173 (by kernel_rfl) (by kernel_rfl) (by kernel_rfl)
  h2:=seqs P 173 code2 (by kernel_rfl) (map_map_of (sq173 P))
  found:=found2
  nxs:=fun x n d s p h hn e=>by
    have h1:=nx2_in x n d s p h e
    have h2:=hd2_le x n p (by omega)
    rw [h1.2.2]
    omega
theorem named_eq (a b:Value):reNamed "re.Pattern.sub" "sub" ["repl","string","count"] 2 [a,b] []=pure [some a,some b,none]:=by kernel_rfl
theorem str_no_call:typeLookup (.type "str") "__call__" = pure none:=by rw [typeLookup_type,builtinLookup_eq_fast];kernel_rfl
noncomputable def X_sub (p:Pat)(r:Str)(tr:Nat)(x:Str)(tx:Nat)(y:Str):Spec:=X_tok (.builtin "re.Pattern.sub" ⟨[.ref p.pa,.str r tr,.str x tx],[]⟩) (fun t=>.str y t)
theorem ok_sub {w:World}{p:Pat}(O:PatOk p w.params){r x y:Str}{tr tx:Nat}(hx:x.length≤2 ^ 20)(hr:r.cps.contains 92=false)(hy:y.cps.toList=outN p r.cps.toList x.cps x.length 0)(hz:y.length≤sizeLine):(X_sub p r tr x tx y).Ok w:=by
  have hsl:=sizeLine_eq
  refine ok_tok (con_builtin (b:=Builtin.«re.Pattern.sub») (by decide +kernel) (entryFor_of_tree (by kernel_rfl)) fun A s R sA hg hpre hnd hout hR=>?_)
  unfold Builtin.«re.Pattern.sub» reSubstitute
  dsimp only
  rw [named_eq]
  refine wpAny_bind (wpAny_pure ?_)
  dsimp only
  refine wpAny_bind (wpAny_pure ?_)
  have hT:s.TypeIs (.str r tr) "str" := rfl
  refine wpAny_bind (wpAny_specialOf hT str_no_call ?_)
  rw [if_neg (by simp)]
  unfold asStr?
  refine wpAny_bind (wpAny_pure ?_)
  dsimp only
  refine wpAny_bind (wpAny_pure ?_)
  rw [if_neg (by simp),if_pos (by rw [hr];rfl)]
  refine wpAny_bind (wpAny_pure ?_)
  dsimp only
  obtain ⟨xa⟩:=x
  refine wpAny_bind (wpAny_holding (wp_target O hg ?_))
  rw [if_neg (by decide)]
  unfold newList
  refine wpAny_bind ?_
  refine wpAny_newObj_type ?_ (by show _≤sizeLine;rw [sizeLine_eq];simp)
  refine wpAny_pure ⟨plainId_quiet (by decide +kernel) _,?_⟩
  have hgl:gl w.params s.heap.objs.size=none:=by
    cases q:gl w.params s.heap.objs.size with
    | none=>rfl
    | some o=>exact absurd (Heap.lt_size (hg _ _ q)) (Nat.lt_irrefl _)
  have hx':xa.size≤2 ^ 20:=hx
  have hy':catS []++outN p r.cps.toList xa xa.size 0=y.cps.toList:=hy.symm
  refine sub_loop (p:=p) (x:=xa) (r:=r) (tx:=tx) (tr:=tr) (l:=s.heap.objs.size) O hx' hgl xa.size 0 0 [] 0 _ (by omega) (by omega) (by simp;omega) (by rw [hy',← len_eq];exact hz) (fun a o e=>Heap.get?_push_of_some _ (hg a o e)) (Heap.get?_push_size _ rfl) fun t st' hk=>?_
  rw [hy']
  refine hR _ st' ⟨[],[],⟨⟨t,rfl⟩,rfl,rfl⟩,rfl,(fun _ h=>by cases h),List.nodup_nil,?_⟩
  have kp:∀ b o,s.heap.get? b=some o→st'.heap.get? b=some o:=fun b o e=>hk.keep b o (fun z=>by rw [z] at e;exact absurd (Heap.lt_size e) (Nat.lt_irrefl _)) (Heap.get?_push_of_some _ e)
  exact ⟨fun a o e=>kp a o (hg a o e),fun b o e _=>kp b o e,Nat.le_trans (by show _≤(s.heap.push _).objs.size;rw [Heap.size_push];exact Nat.le_succ _) hk.size,hk.gens,hk.drawn,hk.os,hk.toks⟩
end
section
open PySem PySem.W PySem.W.X PySem.Spec PySem.Calls
set_option maxHeartbeats 1000000
noncomputable def quoteQ:Bool→List Nat→List Nat
  | _,[]=>[]
  | b,c::l=>(if b&&c==46 then [46,46] else [c])++quoteQ (c==10) l
noncomputable def normN:Bool→List Nat→List Nat
  | _,[]=>[]
  | b,c::l=>if c==13 then 13::10::normN true l else if c==10 then (if b then normN false l else 13::10::normN false l) else c::normN false l
theorem norm_flag {c:Nat}{l:List Nat}(h:(c==10)=false):normN true (c::l)=normN false (c::l):=by
  rw [normN,normN,h]
  rfl
theorem drop_cons {x:Array Nat}{s:Nat}(h:s<x.size):x.toList.drop s=x.getD s 0::x.toList.drop (s+1):=by
  have hl:s<x.toList.length:=by rw [Array.length_toList];exact h
  rw [List.drop_eq_getElem_cons hl]
  congr 1
  rw [Array.getD_eq_getD_getElem?,Array.getElem?_eq_getElem h]
  rfl
theorem ext_cons {x:Array Nat}{s q:Nat}(h:s<q)(hq:q≤x.size):(x.extract s q).toList=x.getD s 0::(x.extract (s+1) q).toList:=by
  rw [Array.toList_extract,Array.toList_extract,List.extract_eq_take_drop,List.extract_eq_take_drop,drop_cons (by omega),show q-s=(q-(s+1))+1 from by omega,List.take_succ_cons]
theorem ext_self {x:Array Nat}{s:Nat}:(x.extract s s).toList=[]:=by simp
theorem drop_all {x:Array Nat}{s:Nat}(h:x.size≤s):x.toList.drop s=[]:=List.drop_eq_nil_of_le (by rw [Array.length_toList];exact h)
theorem ext_end {x:Array Nat}:∀ (s:Nat),(x.extract s x.size).toList=x.toList.drop s:=fun s=>by
  rw [Array.toList_extract,List.extract_eq_take_drop,List.take_of_length_le]
  rw [List.length_drop,Array.length_toList];exact Nat.le_refl _
section
variable {p:Pat}{r:List Nat}{x:Array Nat}
theorem out_end {f s:Nat}(h:p.nx x x.size (x.size-s) s=none):outN p r x f s=x.toList.drop s:=by
  cases f with
  | zero=>rw [outN,ext_end]
  | succ f=>rw [outN,h,ext_end]
theorem out_hit {f s h:Nat}(e:p.nx x x.size (x.size-s) s=some (s,h)):outN p r x (f+1) s=r++outN p r x f h:=by
  rw [outN,e]
  show (x.extract s s).toList++r++_=_
  rw [ext_self,List.nil_append]
theorem out_skip {f s:Nat}(hs:s<x.size)(hn:∀ d s p' h,x.size=s+d→p.nx x x.size d s=some (p',h)→s≤p'∧p'<h∧h≤x.size)(e:p.nx x x.size (x.size-s) s=p.nx x x.size (x.size-(s+1)) (s+1)):outN p r x (f+1) s=x.getD s 0::outN p r x (f+1) (s+1):=by
  cases q:p.nx x x.size (x.size-(s+1)) (s+1) with
  | none=>rw [out_end (e.trans q),out_end q,drop_cons hs]
  | some o =>
    obtain ⟨q',h⟩:=o
    have:=hn _ (s+1) q' h (by omega) q
    rw [outN,e,q,outN,q]
    show (x.extract s q').toList++r++_=x.getD s 0::((x.extract (s+1) q').toList++r++_)
    rw [ext_cons (by omega) (by omega)]
    rfl
end
theorem out1 {P:Params}{x:Array Nat}:∀ (k s f:Nat),x.size-s=k→s≤x.size→k≤f→outN pat1 [46,46] x f s=quoteQ (yes1 x s) (x.toList.drop s):=by
  intro k
  induction k with
  | zero =>
    intro s f hk hs hf
    have e:pat1.nx x x.size (x.size-s) s=none:=by rw [hk];rfl
    rw [out_end e,drop_all (by omega)]
    rfl
  | succ k ih =>
    intro s f hk hs hf
    obtain ⟨f,rfl⟩:∃ f',f=f'+1:=⟨f-1,by omega⟩
    have hn:=(ok_pat1 P).nxs x x.size
    have hy:yes1 x (s+1)=(x.getD s 0==10):=by
      unfold yes1
      rw [show ((s+1==0)=false) from rfl,Bool.false_or,Nat.add_sub_cancel]
    have e0:pat1.nx x x.size (x.size-s) s=if yes1 x s&&x.getD s 0==46 then some (s,s+1) else pat1.nx x x.size (x.size-(s+1)) (s+1):=by
      rw [hk,show x.size-(s+1)=k from by omega]
      rfl
    rw [drop_cons (by omega),quoteQ,← hy]
    by_cases h:(yes1 x s&&x.getD s 0==46)=true
    · rw [if_pos h,out_hit (by rw [e0,if_pos h]),ih (s+1) f (by omega) (by omega) (by omega)]
    · rw [if_neg h,out_skip (by omega) hn (by rw [e0,if_neg h]),ih (s+1) (f+1) (by omega) (by omega) (by omega)]
      rfl
theorem out2 {P:Params}{x:Array Nat}:∀ (k s f:Nat),x.size-s≤k→s≤x.size→x.size-s≤f→outN pat2 [13,10] x f s=normN false (x.toList.drop s):=by
  intro k
  induction k with
  | zero =>
    intro s f hk hs hf
    have e:pat2.nx x x.size (x.size-s) s=none:=by rw [show x.size-s=0 from by omega];rfl
    rw [out_end e,drop_all (by omega)]
    rfl
  | succ k ih =>
    intro s f hk hs hf
    by_cases hlt:s<x.size
    · obtain ⟨f,rfl⟩:∃ f',f=f'+1:=⟨f-1,by omega⟩
      have hn:=(ok_pat2 P).nxs x x.size
      have e0:pat2.nx x x.size (x.size-s) s=if x.getD s 0==10||x.getD s 0==13 then some (s,hd2 x x.size s) else pat2.nx x x.size (x.size-(s+1)) (s+1):=by
        rw [show x.size-s=(x.size-(s+1))+1 from by omega]
        rfl
      rw [drop_cons hlt,normN]
      cases q13:x.getD s 0==13 with
      | true =>
        rw [if_pos rfl]
        have e1:pat2.nx x x.size (x.size-s) s=some (s,hd2 x x.size s):=by rw [e0,q13,Bool.or_true,if_pos rfl]
        by_cases h1:s+1<x.size
        · rw [drop_cons h1]
          cases q10:x.getD (s+1) 0==10 with
          | true =>
            have e2:hd2 x x.size s=s+2:=by unfold hd2;rw [q13,q10,decide_eq_true h1];rfl
            rw [out_hit (e1.trans (by rw [e2])),ih (s+2) f (by omega) (by omega) (by omega),normN]
            rw [show (x.getD (s+1) 0==13)=false from by rw [eq_of_beq q10];rfl,q10,if_neg Bool.false_ne_true,if_pos rfl,if_pos rfl]
            rfl
          | false =>
            have e2:hd2 x x.size s=s+1:=by unfold hd2;rw [q13,q10,Bool.and_false];rfl
            rw [out_hit (e1.trans (by rw [e2])),ih (s+1) f (by omega) (by omega) (by omega),drop_cons h1,norm_flag q10]
            rfl
        · have e2:hd2 x x.size s=s+1:=by unfold hd2;rw [q13,decide_eq_false h1];rfl
          rw [out_hit (e1.trans (by rw [e2])),ih (s+1) f (by omega) (by omega) (by omega),drop_all (by omega)]
          rfl
      | false =>
        rw [if_neg Bool.false_ne_true]
        cases q10:x.getD s 0==10 with
        | true =>
          have e1:pat2.nx x x.size (x.size-s) s=some (s,hd2 x x.size s):=by rw [e0,q10,Bool.true_or,if_pos rfl]
          have e2:hd2 x x.size s=s+1:=by unfold hd2;rw [q13];rfl
          rw [out_hit (e1.trans (by rw [e2])),ih (s+1) f (by omega) (by omega) (by omega),if_pos rfl,if_neg Bool.false_ne_true]
          rfl
        | false =>
          rw [if_neg Bool.false_ne_true,out_skip hlt hn (by rw [e0,q10,q13,Bool.or_false,if_neg Bool.false_ne_true]),ih (s+1) (f+1) (by omega) (by omega) (by omega)]
    · have e:pat2.nx x x.size (x.size-s) s=none:=by rw [show x.size-s=0 from by omega];rfl
      rw [out_end e,drop_all (by omega)]
      rfl
noncomputable def qd (x:Str):Str:=⟨(quoteQ true (normN false x.cps.toList)).toArray⟩
noncomputable def nrm (x:Str):Str:=⟨(normN false x.cps.toList).toArray⟩
theorem norm_len:∀ (b:Bool) (l:List Nat),(normN b l).length≤2*l.length
  | _,[]=>Nat.le_refl _
  | b,c::l=>by
    have h1:=norm_len true l
    have h2:=norm_len false l
    rw [normN]
    split
    · simp only [List.length_cons];omega
    · split
      · split<;>simp only [List.length_cons]<;>omega
      · simp only [List.length_cons];omega
theorem quote_len:∀ (b:Bool) (l:List Nat),(quoteQ b l).length≤2*l.length
  | _,[]=>Nat.le_refl _
  | b,c::l=>by
    rw [quoteQ,List.length_append]
    have:=quote_len (c==10) l
    split<;>simp only [List.length_cons,List.length_nil]<;>omega
theorem ok_sub2 {w:World}{x:Str}{tr tx:Nat}(hx:x.length≤2 ^ 18):(X_sub pat2 ⟨#[13,10]⟩ tr x tx (nrm x)).Ok w:=by
  have hsl:=sizeLine_eq
  have:=norm_len false x.cps.toList
  refine ok_sub (ok_pat2 w.params) (by omega) (by decide +kernel) ?_ (by rw [len_eq] at hx ⊢;show (normN false x.cps.toList).length≤_;omega)
  exact (out2 (P:=w.params) (x:=x.cps) x.cps.size 0 x.length (by omega) (by omega) (by show x.cps.size-0≤x.cps.size;omega)).symm
theorem ok_sub1 {w:World}{x:Str}{tr tx:Nat}(hx:x.length≤2 ^ 18):(X_sub pat1 ⟨#[46,46]⟩ tr x tx ⟨(quoteQ true x.cps.toList).toArray⟩).Ok w:=by
  have hsl:=sizeLine_eq
  have:=quote_len true x.cps.toList
  refine ok_sub (ok_pat1 w.params) (by omega) (by decide +kernel) ?_ (by rw [len_eq] at hx ⊢;show (quoteQ true x.cps.toList).length≤_;omega)
  exact (out1 (P:=w.params) (x:=x.cps) x.cps.size 0 x.length rfl (by omega) (Nat.le_refl _)).symm
end
section
open PySem PySem.W PySem.W.X PySem.Spec PySem.Calls
set_option maxHeartbeats 0
theorem nrm_len {x:Str}(hx:x.length≤2 ^ 17):(nrm x).length≤2 ^ 18:=by
  have:=norm_len false x.cps.toList
  rw [len_eq] at hx ⊢
  show (normN false x.cps.toList).length≤_
  omega
noncomputable def X_qd (x:Str)(tx:Nat):Spec:={ n0:=0,k:=0,nt:=1,d:=440,code:=fun J=>.call (.ref 181) ⟨[.str x tx],[]⟩,pre:=fun J=>[],res:=fun J Z=>.ok (.ret (.str (qd x) (Z 0))),post:=fun J Z=>[],new:=fun J Z=>[] }
noncomputable def qd_hs (b1 b2:Bool):List Nat:=[0,0,1,1,1,0,0,0,0,0,0,0,0,0,0,0,1,0,0]
noncomputable def qd_cs (Pw:Params)(x:Str)(tx:Nat)(b1 b2:Bool):List Ev:=[evX (fun J Z=>X_sub pat2 ⟨#[13,10]⟩ 508 x tx (nrm x)) [] 2 1 2,evX (fun J Z=>X_sub pat1 ⟨#[46,46]⟩ (Z 1) (nrm x) (Z 2) (qd x)) [] 1 1 3]
theorem run_qd (x:Str)(tx:Nat)(Pw:Params):∀ (b1 b2:Bool) (J Z:Nu),RD (X_qd x tx) Pw b1 b2 48 (qd_hs b1 b2) (qd_cs Pw x tx b1 b2) [] [3] J Z
  | true,b2,J,Z=>by kernel_rfl
  | false,b2,J,Z=>by kernel_rfl
theorem ok_qd (w:World){x:Str}{tx:Nat}(hx:x.length≤2 ^ 17):(X_qd x tx).Ok w :=
  ok_of_run (hs:=qd_hs (row1 w) (row2 w)) (cs:=qd_cs w.params x tx (row1 w) (row2 w)) (ns:=[]) (ts:=[3]) ((show ∀ b1 b2,ValidAll prg w (gl w.params) (qd_cs w.params x tx b1 b2) from fun b1 b2=>vc (fun J Z=>ok_sub2 (by omega)) rfl (vc (fun J Z=>ok_sub1 (nrm_len hx)) rfl (va_nil))) _ _) rfl rfl (by decide) (show ∀ j∈([]:List Nat),0≤j by decide) (run_qd x tx w.params (row1 w) (row2 w))
noncomputable def X_ltgE (p:SP)(n:Int)(tn le:Nat)(dh:Int)(dt du:Nat)(fs:Str)(ft:Nat)(pb:List Value)(pe e:Nat):Spec:={ n0:=11,k:=1,nt:=1,d:=440,code:=fun J=>.call (.ref 195) ⟨[.ref (J 0),.ref (J 2),.str fs ft],[]⟩,pre:=fun J=>([accO (J 1) [] e,accD dh dt du]++strm p J 2 (.int n tn) (J 10) [] le++[lst pb pe]),res:=fun J Z=>.ok (.ret (.ref (J 11))),post:=fun J Z=>([accO (J 1) [] e,accD dh dt du]++strm p J 2 (.int n tn) (J 10) [] le++[lst pb pe]),new:=fun J Z=>[lst [.str fs ft,.str ⟨#[]⟩ (Z 0)] 0] }
noncomputable def ltgE_hs (b1 b2:Bool):List Nat:=[0,0,12,12,12,12,12,12,1,12,12,1,0,0,0,1,0,0,0,1,0,0,0,0,1,2,0,13,13,13,13,14,14,14,14,14,13,14,14,14,14,14,14,13,14,14,14,14,14,14,13,14,14,16,12,12,12,12,12,12,12]
noncomputable def ltgE_cs (Pw:Params)(p:SP)(n:Int)(tn le:Nat)(dh:Int)(dt du:Nat)(fs:Str)(ft:Nat)(pb:List Value)(pe e:Nat)(b1 b2:Bool):List Ev:=[evX (fun J Z=>X_eq fs ft ⟨#[]⟩ (Z 3) false) [] 2 12 4,evX (fun J Z=>X_popE dh dt du e) [0,1] 0 12 4,evX (fun J Z=>X_add0 ⟨#[]⟩ (Z 4) ⟨#[]⟩ (Z 5)) [] 9 16 8,evX (fun J Z=>X_eq ⟨#[]⟩ (Z 5) ⟨#[]⟩ (Z 8) true) [] 1 16 9]
theorem run_ltgE (p:SP)(n:Int)(tn le:Nat)(dh:Int)(dt du:Nat)(fs:Str)(ft:Nat)(pb:List Value)(pe e:Nat)(Pw:Params):∀ (b1 b2:Bool) (J Z:Nu),RD (X_ltgE p n tn le dh dt du fs ft pb pe e) Pw b1 b2 136 (ltgE_hs b1 b2) (ltgE_cs Pw p n tn le dh dt du fs ft pb pe e b1 b2) [16] [9] J Z
  | true,b2,J,Z=>by kernel_rfl
  | false,b2,J,Z=>by kernel_rfl
theorem ok_ltgE (w:World){p:SP}{n:Int}{tn le:Nat}{dh:Int}{dt du:Nat}{fs:Str}{ft:Nat}{pb:List Value}{pe e:Nat}  (hf:(fs.cps.toList==[])=false):(X_ltgE p n tn le dh dt du fs ft pb pe e).Ok w :=
  ok_of_run (hs:=ltgE_hs (row1 w) (row2 w)) (cs:=ltgE_cs w.params p n tn le dh dt du fs ft pb pe e (row1 w) (row2 w)) (ns:=[16]) (ts:=[9]) (vc (fun J Z=>ok_eq hf) rfl (vc (fun J Z=>ok_popE w) rfl (vc (fun J Z=>ok_add0 rfl) rfl (vc (fun J Z=>ok_eq rfl) rfl (va_nil))))) rfl rfl (by decide) (show ∀ j∈([16]:List Nat),11≤j by decide) (run_ltgE p n tn le dh dt du fs ft pb pe e w.params (row1 w) (row2 w))
noncomputable def X_lttE (p:SP)(n:Int)(tn le:Nat)(dh:Int)(dt du ut:Nat)(fs:Str)(ft:Nat)(pb:List Value)(pe e:Nat):Spec:={ n0:=11,k:=1,nt:=1,d:=440,code:=fun J=>.call (.ref 195) ⟨[.ref (J 0),.ref (J 2),.str ⟨#[]⟩ ut],[]⟩,pre:=fun J=>([accO (J 1) [] e,accD dh dt du]++strm p J 2 (.int n tn) (J 10) [] le++[lst (.str fs ft::pb) pe]),res:=fun J Z=>.ok (.ret (.ref (J 11))),post:=fun J Z=>([accO (J 1) [] e,accD dh dt du]++strm p J 2 (.int n tn) (J 10) [] le++[lst pb (pe+1)]),new:=fun J Z=>[lst [.str fs ft,.str ⟨#[]⟩ (Z 0)] 0] }
noncomputable def lttE_hs (b1 b2:Bool):List Nat:=[0,0,12,12,12,12,12,12,1,12,12,3,0,0,0,3,0,0,0,3,0,0,0,0,3,4,0,12,12,12,1,0,0,0,1,0,0,0,1,0,0,0,0,1,2,0,13,13,13,13,14,14,14,14,14,13,14,14,14,14,14,14,13,14,14,14,14,14,14,13,14,14,16,12,12,12,12,12,12,12]
noncomputable def lttE_cs (Pw:Params)(p:SP)(n:Int)(tn le:Nat)(dh:Int)(dt du ut:Nat)(fs:Str)(ft:Nat)(pb:List Value)(pe e:Nat)(b1 b2:Bool):List Ev:=[evX (fun J Z=>X_eq ⟨#[]⟩ ut ⟨#[]⟩ (Z 3) true) [] 2 12 4,evX (fun J Z=>X_gtpop p.hf p.tf (.int n tn) (.ref (J 4)) pe p.e1 [] fs ft pb) [2,3,10] 0 12 4,evX (fun J Z=>X_popE dh dt du e) [0,1] 0 12 5,evX (fun J Z=>X_add0 ⟨#[]⟩ (Z 5) ⟨#[]⟩ (Z 6)) [] 9 16 9,evX (fun J Z=>X_eq ⟨#[]⟩ (Z 6) ⟨#[]⟩ (Z 9) true) [] 1 16 10]
theorem run_lttE (p:SP)(n:Int)(tn le:Nat)(dh:Int)(dt du ut:Nat)(fs:Str)(ft:Nat)(pb:List Value)(pe e:Nat)(Pw:Params):∀ (b1 b2:Bool) (J Z:Nu),RD (X_lttE p n tn le dh dt du ut fs ft pb pe e) Pw b1 b2 167 (lttE_hs b1 b2) (lttE_cs Pw p n tn le dh dt du ut fs ft pb pe e b1 b2) [16] [10] J Z
  | true,b2,J,Z=>by kernel_rfl
  | false,b2,J,Z=>by kernel_rfl
theorem ok_lttE (w:World){p:SP}{n:Int}{tn le:Nat}{dh:Int}{dt du ut:Nat}{fs:Str}{ft:Nat}{pb:List Value}{pe e:Nat}  (hf:(fs.cps.toList==[])=false) (hb:pb.length<sizeLine):(X_lttE p n tn le dh dt du ut fs ft pb pe e).Ok w :=
  ok_of_run (hs:=lttE_hs (row1 w) (row2 w)) (cs:=lttE_cs w.params p n tn le dh dt du ut fs ft pb pe e (row1 w) (row2 w)) (ns:=[16]) (ts:=[10]) (vc (fun J Z=>ok_eq rfl) rfl (vc (fun J Z=>ok_gtpop w hb) rfl (vc (fun J Z=>ok_popE w) rfl (vc (fun J Z=>ok_add0 rfl) rfl (vc (fun J Z=>ok_eq rfl) rfl (va_nil)))))) rfl rfl (by decide) (show ∀ j∈([16]:List Nat),11≤j by decide) (run_lttE p n tn le dh dt du ut fs ft pb pe e w.params (row1 w) (row2 w))
noncomputable def X_ltgF (p:SP)(n:Int)(tn le:Nat)(dh:Int)(dt du:Nat)(fs:Str)(ft:Nat)(pb:List Value)(pe e:Nat)(vs:List Value)(wh:Str)(wt:Nat)(ml:Str)(mt:Nat)(gs:Str):Spec:={ n0:=12,k:=2,nt:=1,d:=440,code:=fun J=>.call (.ref 195) ⟨[.ref (J 0),.ref (J 2),.str fs ft],[]⟩,pre:=fun J=>([accO (J 1) (vs++[.ref (J 11)]) e,accD dh dt du]++strm p J 2 (.int n tn) (J 10) [] le++[lst pb pe]++[tupO [.str wh wt,.str ml mt]]),res:=fun J Z=>.ok (.ret (.ref (J 12))),post:=fun J Z=>([accO (J 1) (vs++[.ref (J 13)]) (e+1+1),accD dh dt du]++strm p J 2 (.int n tn) (J 10) [] le++[lst pb pe]++[tupO [.str wh wt,.str ml mt]]),new:=fun J Z=>[lst [.str fs ft,.str ⟨#[]⟩ (Z 0)] 0,tupO [.str wh wt,.str ml mt]] }
noncomputable def ltgF_hs (b1 b2:Bool):List Nat:=[0,0,13,13,13,13,13,13,1,13,13,1,0,0,0,1,0,0,0,1,0,0,0,0,1,2,0,12,12,12,12,14,14,14,14,14,12,14,14,14,14,14,14,12,14,14,14,14,14,14,12,14,14,16,13,13,13,13,13,13,13,0,0,13,0,0,13,0,0,13,13,1,0,0,0,1,0,0,0,1,0,0,0,0,1,2,13,13,0,13]
noncomputable def ltgF_cs (Pw:Params)(p:SP)(n:Int)(tn le:Nat)(dh:Int)(dt du:Nat)(fs:Str)(ft:Nat)(pb:List Value)(pe e:Nat)(vs:List Value)(wh:Str)(wt:Nat)(ml:Str)(mt:Nat)(gs:Str)(b1 b2:Bool):List Ev:=[evX (fun J Z=>X_eq fs ft ⟨#[]⟩ (Z 3) false) [] 2 13 4,evX (fun J Z=>X_pop dh dt du vs e (J 11)) [0,1] 0 13 4,evX (fun J Z=>X_add wh wt ml mt) [] 9 16 6,evX (fun J Z=>X_eq (wh++ml) (Z 6) ⟨#[]⟩ (Z 7) false) [] 1 16 8,evX (fun J Z=>X_ne fs ft ⟨#[]⟩ (Z 8) true) [] 1 16 9,evX (fun J Z=>X_lenS fs ft) [] 1 16 9,evX (fun J Z=>X_lstrip fs ft (Z 10) gs) [] 1 16 11,evX (fun J Z=>X_lenS gs (Z 11)) [] 1 16 12,evX (fun J Z=>X_lenS wh wt) [] 3 16 14,evX (fun J Z=>X_ltI ((fs.length:Int)-(gs.length:Int)) (Z 13) (wh.length:Int) (Z 14) true) [] 1 16 15,evX (fun J Z=>X_apush dh dt du vs (e+1) ml mt wh wt) [0,1] 0 16 15]
theorem run_ltgF (p:SP)(n:Int)(tn le:Nat)(dh:Int)(dt du:Nat)(fs:Str)(ft:Nat)(pb:List Value)(pe e:Nat)(vs:List Value)(wh:Str)(wt:Nat)(ml:Str)(mt:Nat)(gs:Str)(Pw:Params):∀ (b1 b2:Bool) (J Z:Nu),RD (X_ltgF p n tn le dh dt du fs ft pb pe e vs wh wt ml mt gs) Pw b1 b2 215 (ltgF_hs b1 b2) (ltgF_cs Pw p n tn le dh dt du fs ft pb pe e vs wh wt ml mt gs b1 b2) [17,16] [15] J Z
  | true,b2,J,Z=>by kernel_rfl
  | false,b2,J,Z=>by kernel_rfl
theorem ok_ltgF (w:World){p:SP}{n:Int}{tn le:Nat}{dh:Int}{dt du:Nat}{fs:Str}{ft:Nat}{pb:List Value}{pe e:Nat}{vs:List Value}{wh:Str}{wt:Nat}{ml:Str}{mt:Nat}{gs:Str}  (hf:(fs.cps.toList==[])=false) (hv:vs.length<sizeLine) (hw:wh.length≠0) (hm:ml.length≠0) (hs:(wh++ml).length≤sizeLine) (he:((wh++ml).cps.toList==[])=false) (hf2:(fs.cps.toList != [])=true) (hl1:fs.length≤sizeLine) (hl2:gs.length≤sizeLine) (hl3:wh.length≤sizeLine) (hg:fs.cps.toList.dropWhile (fun c=>(#[32]:Array Nat).contains c)=gs.cps.toList) (hlt:decide ((fs.length:Int)-(gs.length:Int)<(wh.length:Int))=true):(X_ltgF p n tn le dh dt du fs ft pb pe e vs wh wt ml mt gs).Ok w :=
  ok_of_run (hs:=ltgF_hs (row1 w) (row2 w)) (cs:=ltgF_cs w.params p n tn le dh dt du fs ft pb pe e vs wh wt ml mt gs (row1 w) (row2 w)) (ns:=[17,16]) (ts:=[15]) (vc (fun J Z=>ok_eq hf) rfl (vc (fun J Z=>ok_pop w hv) rfl (vc (fun J Z=>ok_add hw hm hs) rfl (vc (fun J Z=>ok_eq he) rfl (vc (fun J Z=>ok_ne hf2) rfl (vc (fun J Z=>ok_lenS hl1) rfl (vc (fun J Z=>ok_lstrip hg hl1) rfl (vc (fun J Z=>ok_lenS hl2) rfl (vc (fun J Z=>ok_lenS hl3) rfl (vc (fun J Z=>ok_ltI hlt) rfl (vc (fun J Z=>ok_apush w hv) rfl (va_nil)))))))))))) rfl rfl (by decide) (show ∀ j∈([17,16]:List Nat),12≤j by decide) (run_ltgF p n tn le dh dt du fs ft pb pe e vs wh wt ml mt gs w.params (row1 w) (row2 w))
noncomputable def X_lttF (p:SP)(n:Int)(tn le:Nat)(dh:Int)(dt du ut:Nat)(fs:Str)(ft:Nat)(pb:List Value)(pe e:Nat)(vs:List Value)(wh:Str)(wt:Nat)(ml:Str)(mt:Nat)(gs:Str):Spec:={ n0:=12,k:=2,nt:=1,d:=440,code:=fun J=>.call (.ref 195) ⟨[.ref (J 0),.ref (J 2),.str ⟨#[]⟩ ut],[]⟩,pre:=fun J=>([accO (J 1) (vs++[.ref (J 11)]) e,accD dh dt du]++strm p J 2 (.int n tn) (J 10) [] le++[lst (.str fs ft::pb) pe]++[tupO [.str wh wt,.str ml mt]]),res:=fun J Z=>.ok (.ret (.ref (J 12))),post:=fun J Z=>([accO (J 1) (vs++[.ref (J 13)]) (e+1+1),accD dh dt du]++strm p J 2 (.int n tn) (J 10) [] le++[lst pb (pe+1)]++[tupO [.str wh wt,.str ml mt]]),new:=fun J Z=>[lst [.str fs ft,.str ⟨#[]⟩ (Z 0)] 0,tupO [.str wh wt,.str ml mt]] }
noncomputable def lttF_hs (b1 b2:Bool):List Nat:=[0,0,13,13,13,13,13,13,1,13,13,3,0,0,0,3,0,0,0,3,0,0,0,0,3,4,0,13,13,13,1,0,0,0,1,0,0,0,1,0,0,0,0,1,2,0,12,12,12,12,14,14,14,14,14,12,14,14,14,14,14,14,12,14,14,14,14,14,14,12,14,14,16,13,13,13,13,13,13,13,0,0,13,0,0,13,0,0,13,13,1,0,0,0,1,0,0,0,1,0,0,0,0,1,2,13,13,0,13]
noncomputable def lttF_cs (Pw:Params)(p:SP)(n:Int)(tn le:Nat)(dh:Int)(dt du ut:Nat)(fs:Str)(ft:Nat)(pb:List Value)(pe e:Nat)(vs:List Value)(wh:Str)(wt:Nat)(ml:Str)(mt:Nat)(gs:Str)(b1 b2:Bool):List Ev:=[evX (fun J Z=>X_eq ⟨#[]⟩ ut ⟨#[]⟩ (Z 3) true) [] 2 13 4,evX (fun J Z=>X_gtpop p.hf p.tf (.int n tn) (.ref (J 4)) pe p.e1 [] fs ft pb) [2,3,10] 0 13 4,evX (fun J Z=>X_pop dh dt du vs e (J 11)) [0,1] 0 13 5,evX (fun J Z=>X_add wh wt ml mt) [] 9 16 7,evX (fun J Z=>X_eq (wh++ml) (Z 7) ⟨#[]⟩ (Z 8) false) [] 1 16 9,evX (fun J Z=>X_ne fs ft ⟨#[]⟩ (Z 9) true) [] 1 16 10,evX (fun J Z=>X_lenS fs ft) [] 1 16 10,evX (fun J Z=>X_lstrip fs ft (Z 11) gs) [] 1 16 12,evX (fun J Z=>X_lenS gs (Z 12)) [] 1 16 13,evX (fun J Z=>X_lenS wh wt) [] 3 16 15,evX (fun J Z=>X_ltI ((fs.length:Int)-(gs.length:Int)) (Z 14) (wh.length:Int) (Z 15) true) [] 1 16 16,evX (fun J Z=>X_apush dh dt du vs (e+1) ml mt wh wt) [0,1] 0 16 16]
theorem run_lttF (p:SP)(n:Int)(tn le:Nat)(dh:Int)(dt du ut:Nat)(fs:Str)(ft:Nat)(pb:List Value)(pe e:Nat)(vs:List Value)(wh:Str)(wt:Nat)(ml:Str)(mt:Nat)(gs:Str)(Pw:Params):∀ (b1 b2:Bool) (J Z:Nu),RD (X_lttF p n tn le dh dt du ut fs ft pb pe e vs wh wt ml mt gs) Pw b1 b2 246 (lttF_hs b1 b2) (lttF_cs Pw p n tn le dh dt du ut fs ft pb pe e vs wh wt ml mt gs b1 b2) [17,16] [16] J Z
  | true,b2,J,Z=>by kernel_rfl
  | false,b2,J,Z=>by kernel_rfl
theorem ok_lttF (w:World){p:SP}{n:Int}{tn le:Nat}{dh:Int}{dt du ut:Nat}{fs:Str}{ft:Nat}{pb:List Value}{pe e:Nat}{vs:List Value}{wh:Str}{wt:Nat}{ml:Str}{mt:Nat}{gs:Str}  (hf:(fs.cps.toList==[])=false) (hb:pb.length<sizeLine) (hv:vs.length<sizeLine) (hw:wh.length≠0) (hm:ml.length≠0) (hs:(wh++ml).length≤sizeLine) (he:((wh++ml).cps.toList==[])=false) (hf2:(fs.cps.toList != [])=true) (hl1:fs.length≤sizeLine) (hl2:gs.length≤sizeLine) (hl3:wh.length≤sizeLine) (hg:fs.cps.toList.dropWhile (fun c=>(#[32]:Array Nat).contains c)=gs.cps.toList) (hlt:decide ((fs.length:Int)-(gs.length:Int)<(wh.length:Int))=true):(X_lttF p n tn le dh dt du ut fs ft pb pe e vs wh wt ml mt gs).Ok w :=
  ok_of_run (hs:=lttF_hs (row1 w) (row2 w)) (cs:=lttF_cs w.params p n tn le dh dt du ut fs ft pb pe e vs wh wt ml mt gs (row1 w) (row2 w)) (ns:=[17,16]) (ts:=[16]) (vc (fun J Z=>ok_eq rfl) rfl (vc (fun J Z=>ok_gtpop w hb) rfl (vc (fun J Z=>ok_pop w hv) rfl (vc (fun J Z=>ok_add hw hm hs) rfl (vc (fun J Z=>ok_eq he) rfl (vc (fun J Z=>ok_ne hf2) rfl (vc (fun J Z=>ok_lenS hl1) rfl (vc (fun J Z=>ok_lstrip hg hl1) rfl (vc (fun J Z=>ok_lenS hl2) rfl (vc (fun J Z=>ok_lenS hl3) rfl (vc (fun J Z=>ok_ltI hlt) rfl (vc (fun J Z=>ok_apush w hv) rfl (va_nil))))))))))))) rfl rfl (by decide) (show ∀ j∈([17,16]:List Nat),12≤j by decide) (run_lttF p n tn le dh dt du ut fs ft pb pe e vs wh wt ml mt gs w.params (row1 w) (row2 w))
noncomputable def X_ltgP (p:SP)(n:Int)(tn le:Nat)(dh:Int)(dt du:Nat)(fs:Str)(ft:Nat)(pb:List Value)(pe e:Nat)(vs:List Value)(wh:Str)(wt:Nat)(ml:Str)(mt:Nat)(gs:Str):Spec:={ n0:=12,k:=1,nt:=1,d:=440,code:=fun J=>.call (.ref 195) ⟨[.ref (J 0),.ref (J 2),.str fs ft],[]⟩,pre:=fun J=>([accO (J 1) (vs++[.ref (J 11)]) e,accD dh dt du]++strm p J 2 (.int n tn) (J 10) [] le++[lst pb pe]++[tupO [.str wh wt,.str ml mt]]),res:=fun J Z=>.ok (.ret (.ref (J 12))),post:=fun J Z=>([accO (J 1) vs (e+1),accD dh dt du]++strm p J 2 (.int n tn) (J 10) [] le++[lst pb pe]++[tupO [.str wh wt,.str ml mt]]),new:=fun J Z=>[lst [.str (wh++ml) (Z 0),.str fs ft] 0] }
noncomputable def ltgP_hs (b1 b2:Bool):List Nat:=[0,0,13,13,13,13,13,13,1,13,13,1,0,0,0,1,0,0,0,1,0,0,0,0,1,2,0,12,12,12,12,14,14,14,14,14,12,14,14,14,14,14,14,12,14,14,14,14,14,14,12,14,14,16,13,13,13,13,13,13,13,0,0,13,0,0,13,0,0,13,13,13,13]
noncomputable def ltgP_cs (Pw:Params)(p:SP)(n:Int)(tn le:Nat)(dh:Int)(dt du:Nat)(fs:Str)(ft:Nat)(pb:List Value)(pe e:Nat)(vs:List Value)(wh:Str)(wt:Nat)(ml:Str)(mt:Nat)(gs:Str)(b1 b2:Bool):List Ev:=[evX (fun J Z=>X_eq fs ft ⟨#[]⟩ (Z 3) false) [] 2 13 4,evX (fun J Z=>X_pop dh dt du vs e (J 11)) [0,1] 0 13 4,evX (fun J Z=>X_add wh wt ml mt) [] 9 16 6,evX (fun J Z=>X_eq (wh++ml) (Z 6) ⟨#[]⟩ (Z 7) false) [] 1 16 8,evX (fun J Z=>X_ne fs ft ⟨#[]⟩ (Z 8) true) [] 1 16 9,evX (fun J Z=>X_lenS fs ft) [] 1 16 9,evX (fun J Z=>X_lstrip fs ft (Z 10) gs) [] 1 16 11,evX (fun J Z=>X_lenS gs (Z 11)) [] 1 16 12,evX (fun J Z=>X_lenS wh wt) [] 3 16 14,evX (fun J Z=>X_ltI ((fs.length:Int)-(gs.length:Int)) (Z 13) (wh.length:Int) (Z 14) false) [] 1 16 15,evX (fun J Z=>X_add wh wt ml mt) [] 1 16 15]
theorem run_ltgP (p:SP)(n:Int)(tn le:Nat)(dh:Int)(dt du:Nat)(fs:Str)(ft:Nat)(pb:List Value)(pe e:Nat)(vs:List Value)(wh:Str)(wt:Nat)(ml:Str)(mt:Nat)(gs:Str)(Pw:Params):∀ (b1 b2:Bool) (J Z:Nu),RD (X_ltgP p n tn le dh dt du fs ft pb pe e vs wh wt ml mt gs) Pw b1 b2 194 (ltgP_hs b1 b2) (ltgP_cs Pw p n tn le dh dt du fs ft pb pe e vs wh wt ml mt gs b1 b2) [16] [15] J Z
  | true,b2,J,Z=>by kernel_rfl
  | false,b2,J,Z=>by kernel_rfl
theorem ok_ltgP (w:World){p:SP}{n:Int}{tn le:Nat}{dh:Int}{dt du:Nat}{fs:Str}{ft:Nat}{pb:List Value}{pe e:Nat}{vs:List Value}{wh:Str}{wt:Nat}{ml:Str}{mt:Nat}{gs:Str}  (hf:(fs.cps.toList==[])=false) (hv:vs.length<sizeLine) (hw:wh.length≠0) (hm:ml.length≠0) (hs:(wh++ml).length≤sizeLine) (he:((wh++ml).cps.toList==[])=false) (hf2:(fs.cps.toList != [])=true) (hl1:fs.length≤sizeLine) (hl2:gs.length≤sizeLine) (hl3:wh.length≤sizeLine) (hg:fs.cps.toList.dropWhile (fun c=>(#[32]:Array Nat).contains c)=gs.cps.toList) (hlt:decide ((fs.length:Int)-(gs.length:Int)<(wh.length:Int))=false):(X_ltgP p n tn le dh dt du fs ft pb pe e vs wh wt ml mt gs).Ok w :=
  ok_of_run (hs:=ltgP_hs (row1 w) (row2 w)) (cs:=ltgP_cs w.params p n tn le dh dt du fs ft pb pe e vs wh wt ml mt gs (row1 w) (row2 w)) (ns:=[16]) (ts:=[15]) (vc (fun J Z=>ok_eq hf) rfl (vc (fun J Z=>ok_pop w hv) rfl (vc (fun J Z=>ok_add hw hm hs) rfl (vc (fun J Z=>ok_eq he) rfl (vc (fun J Z=>ok_ne hf2) rfl (vc (fun J Z=>ok_lenS hl1) rfl (vc (fun J Z=>ok_lstrip hg hl1) rfl (vc (fun J Z=>ok_lenS hl2) rfl (vc (fun J Z=>ok_lenS hl3) rfl (vc (fun J Z=>ok_ltI hlt) rfl (vc (fun J Z=>ok_add hw hm hs) rfl (va_nil)))))))))))) rfl rfl (by decide) (show ∀ j∈([16]:List Nat),12≤j by decide) (run_ltgP p n tn le dh dt du fs ft pb pe e vs wh wt ml mt gs w.params (row1 w) (row2 w))
noncomputable def X_lttP (p:SP)(n:Int)(tn le:Nat)(dh:Int)(dt du ut:Nat)(fs:Str)(ft:Nat)(pb:List Value)(pe e:Nat)(vs:List Value)(wh:Str)(wt:Nat)(ml:Str)(mt:Nat)(gs:Str):Spec:={ n0:=12,k:=1,nt:=1,d:=440,code:=fun J=>.call (.ref 195) ⟨[.ref (J 0),.ref (J 2),.str ⟨#[]⟩ ut],[]⟩,pre:=fun J=>([accO (J 1) (vs++[.ref (J 11)]) e,accD dh dt du]++strm p J 2 (.int n tn) (J 10) [] le++[lst (.str fs ft::pb) pe]++[tupO [.str wh wt,.str ml mt]]),res:=fun J Z=>.ok (.ret (.ref (J 12))),post:=fun J Z=>([accO (J 1) vs (e+1),accD dh dt du]++strm p J 2 (.int n tn) (J 10) [] le++[lst pb (pe+1)]++[tupO [.str wh wt,.str ml mt]]),new:=fun J Z=>[lst [.str (wh++ml) (Z 0),.str fs ft] 0] }
noncomputable def lttP_hs (b1 b2:Bool):List Nat:=[0,0,13,13,13,13,13,13,1,13,13,3,0,0,0,3,0,0,0,3,0,0,0,0,3,4,0,13,13,13,1,0,0,0,1,0,0,0,1,0,0,0,0,1,2,0,12,12,12,12,14,14,14,14,14,12,14,14,14,14,14,14,12,14,14,14,14,14,14,12,14,14,16,13,13,13,13,13,13,13,0,0,13,0,0,13,0,0,13,13,13,13]
noncomputable def lttP_cs (Pw:Params)(p:SP)(n:Int)(tn le:Nat)(dh:Int)(dt du ut:Nat)(fs:Str)(ft:Nat)(pb:List Value)(pe e:Nat)(vs:List Value)(wh:Str)(wt:Nat)(ml:Str)(mt:Nat)(gs:Str)(b1 b2:Bool):List Ev:=[evX (fun J Z=>X_eq ⟨#[]⟩ ut ⟨#[]⟩ (Z 3) true) [] 2 13 4,evX (fun J Z=>X_gtpop p.hf p.tf (.int n tn) (.ref (J 4)) pe p.e1 [] fs ft pb) [2,3,10] 0 13 4,evX (fun J Z=>X_pop dh dt du vs e (J 11)) [0,1] 0 13 5,evX (fun J Z=>X_add wh wt ml mt) [] 9 16 7,evX (fun J Z=>X_eq (wh++ml) (Z 7) ⟨#[]⟩ (Z 8) false) [] 1 16 9,evX (fun J Z=>X_ne fs ft ⟨#[]⟩ (Z 9) true) [] 1 16 10,evX (fun J Z=>X_lenS fs ft) [] 1 16 10,evX (fun J Z=>X_lstrip fs ft (Z 11) gs) [] 1 16 12,evX (fun J Z=>X_lenS gs (Z 12)) [] 1 16 13,evX (fun J Z=>X_lenS wh wt) [] 3 16 15,evX (fun J Z=>X_ltI ((fs.length:Int)-(gs.length:Int)) (Z 14) (wh.length:Int) (Z 15) false) [] 1 16 16,evX (fun J Z=>X_add wh wt ml mt) [] 1 16 16]
theorem run_lttP (p:SP)(n:Int)(tn le:Nat)(dh:Int)(dt du ut:Nat)(fs:Str)(ft:Nat)(pb:List Value)(pe e:Nat)(vs:List Value)(wh:Str)(wt:Nat)(ml:Str)(mt:Nat)(gs:Str)(Pw:Params):∀ (b1 b2:Bool) (J Z:Nu),RD (X_lttP p n tn le dh dt du ut fs ft pb pe e vs wh wt ml mt gs) Pw b1 b2 225 (lttP_hs b1 b2) (lttP_cs Pw p n tn le dh dt du ut fs ft pb pe e vs wh wt ml mt gs b1 b2) [16] [16] J Z
  | true,b2,J,Z=>by kernel_rfl
  | false,b2,J,Z=>by kernel_rfl
theorem ok_lttP (w:World){p:SP}{n:Int}{tn le:Nat}{dh:Int}{dt du ut:Nat}{fs:Str}{ft:Nat}{pb:List Value}{pe e:Nat}{vs:List Value}{wh:Str}{wt:Nat}{ml:Str}{mt:Nat}{gs:Str}  (hf:(fs.cps.toList==[])=false) (hb:pb.length<sizeLine) (hv:vs.length<sizeLine) (hw:wh.length≠0) (hm:ml.length≠0) (hs:(wh++ml).length≤sizeLine) (he:((wh++ml).cps.toList==[])=false) (hf2:(fs.cps.toList != [])=true) (hl1:fs.length≤sizeLine) (hl2:gs.length≤sizeLine) (hl3:wh.length≤sizeLine) (hg:fs.cps.toList.dropWhile (fun c=>(#[32]:Array Nat).contains c)=gs.cps.toList) (hlt:decide ((fs.length:Int)-(gs.length:Int)<(wh.length:Int))=false):(X_lttP p n tn le dh dt du ut fs ft pb pe e vs wh wt ml mt gs).Ok w :=
  ok_of_run (hs:=lttP_hs (row1 w) (row2 w)) (cs:=lttP_cs w.params p n tn le dh dt du ut fs ft pb pe e vs wh wt ml mt gs (row1 w) (row2 w)) (ns:=[16]) (ts:=[16]) (vc (fun J Z=>ok_eq rfl) rfl (vc (fun J Z=>ok_gtpop w hb) rfl (vc (fun J Z=>ok_pop w hv) rfl (vc (fun J Z=>ok_add hw hm hs) rfl (vc (fun J Z=>ok_eq he) rfl (vc (fun J Z=>ok_ne hf2) rfl (vc (fun J Z=>ok_lenS hl1) rfl (vc (fun J Z=>ok_lstrip hg hl1) rfl (vc (fun J Z=>ok_lenS hl2) rfl (vc (fun J Z=>ok_lenS hl3) rfl (vc (fun J Z=>ok_ltI hlt) rfl (vc (fun J Z=>ok_add hw hm hs) rfl (va_nil))))))))))))) rfl rfl (by decide) (show ∀ j∈([16]:List Nat),12≤j by decide) (run_lttP p n tn le dh dt du ut fs ft pb pe e vs wh wt ml mt gs w.params (row1 w) (row2 w))
noncomputable def X_ltnP (p:SP)(n:Int)(tn le:Nat)(dh:Int)(dt du ut pe e:Nat)(vs:List Value)(wh:Str)(wt:Nat)(ml:Str)(mt:Nat):Spec:={ n0:=12,k:=1,nt:=2,d:=440,code:=fun J=>.call (.ref 195) ⟨[.ref (J 0),.ref (J 2),.str ⟨#[]⟩ ut],[]⟩,pre:=fun J=>([accO (J 1) (vs++[.ref (J 11)]) e,accD dh dt du]++strm p J 2 (.int n tn) (J 10) [] le++[lst [] pe]++[tupO [.str wh wt,.str ml mt]]),res:=fun J Z=>.ok (.ret (.ref (J 12))),post:=fun J Z=>([accO (J 1) vs (e+1),accD dh dt du]++strm p J 2 (.int n tn) (J 10) [] le++[lst [] pe]++[tupO [.str wh wt,.str ml mt]]),new:=fun J Z=>[lst [.str (wh++ml) (Z 0),.str ⟨#[]⟩ (Z 1)] 0] }
noncomputable def ltnP_hs (b1 b2:Bool):List Nat:=[0,0,13,13,13,13,13,13,1,13,13,3,0,0,0,3,0,0,0,3,0,0,0,0,3,4,0,13,13,13,1,0,0,0,1,0,0,0,1,0,0,0,0,1,2,0,12,12,12,12,14,14,14,14,14,12,14,14,14,14,14,14,12,14,14,14,14,14,14,12,14,14,16,13,13,13,13,13,13,13,13,13,13]
noncomputable def ltnP_cs (Pw:Params)(p:SP)(n:Int)(tn le:Nat)(dh:Int)(dt du ut pe e:Nat)(vs:List Value)(wh:Str)(wt:Nat)(ml:Str)(mt:Nat)(b1 b2:Bool):List Ev:=[evX (fun J Z=>X_eq ⟨#[]⟩ ut ⟨#[]⟩ (Z 3) true) [] 2 13 4,evX (fun J Z=>X_gt0 p n tn le pe) [2,3,4,5,6,7,8,9,10] 0 13 4,evX (fun J Z=>X_pop dh dt du vs e (J 11)) [0,1] 0 13 6,evX (fun J Z=>X_add wh wt ml mt) [] 9 16 8,evX (fun J Z=>X_eq (wh++ml) (Z 8) ⟨#[]⟩ (Z 9) false) [] 1 16 10,evX (fun J Z=>X_ne ⟨#[]⟩ (Z 4) ⟨#[]⟩ (Z 10) false) [] 1 16 11,evX (fun J Z=>X_add wh wt ml mt) [] 1 16 11]
theorem run_ltnP (p:SP)(n:Int)(tn le:Nat)(dh:Int)(dt du ut pe e:Nat)(vs:List Value)(wh:Str)(wt:Nat)(ml:Str)(mt:Nat)(Pw:Params):∀ (b1 b2:Bool) (J Z:Nu),RD (X_ltnP p n tn le dh dt du ut pe e vs wh wt ml mt) Pw b1 b2 182 (ltnP_hs b1 b2) (ltnP_cs Pw p n tn le dh dt du ut pe e vs wh wt ml mt b1 b2) [16] [11,4] J Z
  | true,b2,J,Z=>by kernel_rfl
  | false,b2,J,Z=>by kernel_rfl
theorem ok_ltnP (w:World){p:SP}{n:Int}{tn le:Nat}{dh:Int}{dt du ut pe e:Nat}{vs:List Value}{wh:Str}{wt:Nat}{ml:Str}{mt:Nat}  (hv:vs.length<sizeLine) (hw:wh.length≠0) (hm:ml.length≠0) (hs:(wh++ml).length≤sizeLine) (he:((wh++ml).cps.toList==[])=false):(X_ltnP p n tn le dh dt du ut pe e vs wh wt ml mt).Ok w :=
  ok_of_run (hs:=ltnP_hs (row1 w) (row2 w)) (cs:=ltnP_cs w.params p n tn le dh dt du ut pe e vs wh wt ml mt (row1 w) (row2 w)) (ns:=[16]) (ts:=[11,4]) (vc (fun J Z=>ok_eq rfl) rfl (vc (fun J Z=>ok_gt0 w) rfl (vc (fun J Z=>ok_pop w hv) rfl (vc (fun J Z=>ok_add hw hm hs) rfl (vc (fun J Z=>ok_eq he) rfl (vc (fun J Z=>ok_ne rfl) rfl (vc (fun J Z=>ok_add hw hm hs) rfl (va_nil)))))))) rfl rfl (by decide) (show ∀ j∈([16]:List Nat),12≤j by decide) (run_ltnP p n tn le dh dt du ut pe e vs wh wt ml mt w.params (row1 w) (row2 w))
end
section
open PySem PySem.W PySem.W.X PySem.Spec PySem.Calls
set_option maxHeartbeats 1000000
inductive Take (f:Str)(ft:Nat)(pb:List Value)(pe:Nat):Str→Nat→List Value→Nat→Prop
  | given:f.cps.toList≠[]→Take f ft pb pe f ft pb pe
  | taken (h:Str) (t:Nat) (pb':List Value):f=⟨#[]⟩→pb=.str h t::pb'→h.cps.toList≠[]→pb'.length<sizeLine→Take f ft pb pe h t pb' (pe+1)
noncomputable abbrev lexS (p:SP)(J:Nu)(n:Int)(tn le:Nat)(pb:List Value)(pe:Nat):List Obj:=strm p J 2 (.int n tn) (J 10) [] le++[lst pb pe]
noncomputable abbrev Lx:=SP×Int×Nat×Nat×Int×Nat×Nat
noncomputable def X_uE (c:Lx)(f:Str)(ft:Nat)(pb:List Value)(pe e:Nat)(h:Str)(pb':List Value)(pe':Nat):Spec :=
  { n0:=11,k:=1,nt:=2,d:=440,code:=fun J=>.call (.ref 195) ⟨[.ref (J 0),.ref (J 2),.str f ft],[]⟩,pre:=fun J=>([accO (J 1) [] e,accD c.2.2.2.2.1 c.2.2.2.2.2.1 c.2.2.2.2.2.2]++lexS c.1 J c.2.1 c.2.2.1 c.2.2.2.1 pb pe),res:=fun J Z=>.ok (.ret (.ref (J 11))),
    post:=fun J Z=>([accO (J 1) [] e,accD c.2.2.2.2.1 c.2.2.2.2.2.1 c.2.2.2.2.2.2]++lexS c.1 J c.2.1 c.2.2.1 c.2.2.2.1 pb' pe'),new:=fun J Z=>[lst [.str h (Z 0),.str ⟨#[]⟩ (Z 1)] 0] }
noncomputable def two (x y:Nat):Nu:=fun j=>match j with
  | 0=>x
  | 1=>y
  | _+2=>0
theorem two_z (x y:Nat):∀ j,2≤j→two x y j=0:=fun j hj=>match j,hj with
  | j+2,_=>rfl
theorem ne_beq {l:List Nat}(h:l≠[]):(l==[])=false∧(l != [])=true:=by cases l with
  | nil=>exact absurd rfl h
  | cons a l=>exact ⟨rfl,rfl⟩
theorem ok_uE {w:World}{c:Lx}{f:Str}{ft:Nat}{pb:List Value}{pe e:Nat}{h:Str}{ht:Nat}{pb':List Value}{pe':Nat}(T:Take f ft pb pe h ht pb' pe'):(X_uE c f ft pb pe e h pb' pe').Ok w:=by
  obtain ⟨p,n,tn,le,dh,dt,du⟩:=c
  cases T with
  | given hf=>exact ok_weak (ok_ltgE w (p:=p) (n:=n) (tn:=tn) (le:=le) (dh:=dh) (dt:=dt) (du:=du) (fs:=f) (ft:=ft) (pb:=pb) (pe:=pe) (e:=e) (ne_beq hf).1) rfl rfl (Nat.le_refl _) rfl rfl fun μ θ=>⟨two ft (θ 0),two_z _ _,rfl,rfl,rfl⟩
  | taken h t pb' e1 e2 hf hb =>
    subst e1 e2
    exact ok_weak (ok_lttE w (p:=p) (n:=n) (tn:=tn) (le:=le) (dh:=dh) (dt:=dt) (du:=du) (ut:=ft) (fs:=h) (ft:=ht) (pb:=pb') (pe:=pe) (e:=e) (ne_beq hf).1 hb) rfl rfl (Nat.le_refl _) rfl rfl fun μ θ=>⟨two ht (θ 0),two_z _ _,rfl,rfl,rfl⟩
noncomputable def X_uF (c:Lx)(f:Str)(ft:Nat)(pb:List Value)(pe e:Nat)(h:Str)(pb':List Value)(pe':Nat)(vs:List Value)(wh:Str)(wt:Nat)(ml:Str)(mt:Nat):Spec :=
  { n0:=12,k:=2,nt:=2,d:=440,code:=fun J=>.call (.ref 195) ⟨[.ref (J 0),.ref (J 2),.str f ft],[]⟩,pre:=fun J=>([accO (J 1) (vs++[.ref (J 11)]) e,accD c.2.2.2.2.1 c.2.2.2.2.2.1 c.2.2.2.2.2.2]++lexS c.1 J c.2.1 c.2.2.1 c.2.2.2.1 pb pe++[tupO [.str wh wt,.str ml mt]]),res:=fun J Z=>.ok (.ret (.ref (J 12))),
    post:=fun J Z=>([accO (J 1) (vs++[.ref (J 13)]) (e+1+1),accD c.2.2.2.2.1 c.2.2.2.2.2.1 c.2.2.2.2.2.2]++lexS c.1 J c.2.1 c.2.2.1 c.2.2.2.1 pb' pe'++[tupO [.str wh wt,.str ml mt]]),new:=fun J Z=>[lst [.str h (Z 0),.str ⟨#[]⟩ (Z 1)] 0,tupO [.str wh wt,.str ml mt]] }
noncomputable def X_uP (c:Lx)(f:Str)(ft:Nat)(pb:List Value)(pe e:Nat)(h:Str)(pb':List Value)(pe':Nat)(vs:List Value)(wh:Str)(wt:Nat)(ml:Str)(mt:Nat):Spec :=
  { n0:=12,k:=1,nt:=2,d:=440,code:=fun J=>.call (.ref 195) ⟨[.ref (J 0),.ref (J 2),.str f ft],[]⟩,pre:=fun J=>([accO (J 1) (vs++[.ref (J 11)]) e,accD c.2.2.2.2.1 c.2.2.2.2.2.1 c.2.2.2.2.2.2]++lexS c.1 J c.2.1 c.2.2.1 c.2.2.2.1 pb pe++[tupO [.str wh wt,.str ml mt]]),res:=fun J Z=>.ok (.ret (.ref (J 12))),
    post:=fun J Z=>([accO (J 1) vs (e+1),accD c.2.2.2.2.1 c.2.2.2.2.2.1 c.2.2.2.2.2.2]++lexS c.1 J c.2.1 c.2.2.1 c.2.2.2.1 pb' pe'++[tupO [.str wh wt,.str ml mt]]),new:=fun J Z=>[lst [.str (wh++ml) (Z 0),.str h (Z 1)] 0] }
structure ItemOk (vs:List Value)(wh ml:Str):Prop where
  hv:vs.length<sizeLine
  hw:wh.length≠0
  hm:ml.length≠0
  hs:(wh++ml).length≤sizeLine
theorem ItemOk.he {vs:List Value}{wh ml:Str}(h:ItemOk vs wh ml):((wh++ml).cps.toList==[])=false:=(ne_beq (fun z=>by
  have:=h.hw
  have h2:=len_append wh ml
  rw [len_eq (wh++ml),z] at h2
  have:wh.length+ml.length=0:=h2.symm
  omega)).1
theorem ItemOk.hl {vs:List Value}{wh ml:Str}(h:ItemOk vs wh ml):wh.length≤sizeLine:=by have:=h.hs;rw [len_append] at this;omega
theorem ok_uF {w:World}{c:Lx}{f:Str}{ft:Nat}{pb:List Value}{pe e:Nat}{h:Str}{ht:Nat}{pb':List Value}{pe':Nat}{vs:List Value}{wh:Str}{wt:Nat}{ml:Str}{mt:Nat}{gs:Str}(T:Take f ft pb pe h ht pb' pe')(I:ItemOk vs wh ml)
    (hl1:h.length≤sizeLine) (hl2:gs.length≤sizeLine) (hg:h.cps.toList.dropWhile (fun c=>(#[32]:Array Nat).contains c)=gs.cps.toList) (hlt:decide ((h.length:Int)-(gs.length:Int)<(wh.length:Int))=true):(X_uF c f ft pb pe e h pb' pe' vs wh wt ml mt).Ok w:=by
  obtain ⟨p,n,tn,le,dh,dt,du⟩:=c
  cases T with
  | given hf=>exact ok_weak (ok_ltgF w (p:=p) (n:=n) (tn:=tn) (le:=le) (dh:=dh) (dt:=dt) (du:=du) (fs:=f) (ft:=ft) (pb:=pb) (pe:=pe) (e:=e) (vs:=vs) (wt:=wt) (mt:=mt) (gs:=gs) (ne_beq hf).1 I.hv I.hw I.hm I.hs I.he (ne_beq hf).2 hl1 hl2 I.hl hg hlt) rfl rfl (Nat.le_refl _) rfl rfl fun μ θ=>⟨two ft (θ 0),two_z _ _,rfl,rfl,rfl⟩
  | taken h t pb' e1 e2 hf hb =>
    subst e1 e2
    exact ok_weak (ok_lttF w (p:=p) (n:=n) (tn:=tn) (le:=le) (dh:=dh) (dt:=dt) (du:=du) (ut:=ft) (fs:=h) (ft:=ht) (pb:=pb') (pe:=pe) (e:=e) (vs:=vs) (wt:=wt) (mt:=mt) (gs:=gs) (ne_beq hf).1 hb I.hv I.hw I.hm I.hs I.he (ne_beq hf).2 hl1 hl2 I.hl hg hlt) rfl rfl (Nat.le_refl _) rfl rfl fun μ θ=>⟨two ht (θ 0),two_z _ _,rfl,rfl,rfl⟩
theorem ok_uP {w:World}{c:Lx}{f:Str}{ft:Nat}{pb:List Value}{pe e:Nat}{h:Str}{ht:Nat}{pb':List Value}{pe':Nat}{vs:List Value}{wh:Str}{wt:Nat}{ml:Str}{mt:Nat}{gs:Str}(T:Take f ft pb pe h ht pb' pe')(I:ItemOk vs wh ml)
    (hl1:h.length≤sizeLine) (hl2:gs.length≤sizeLine) (hg:h.cps.toList.dropWhile (fun c=>(#[32]:Array Nat).contains c)=gs.cps.toList) (hlt:decide ((h.length:Int)-(gs.length:Int)<(wh.length:Int))=false):(X_uP c f ft pb pe e h pb' pe' vs wh wt ml mt).Ok w:=by
  obtain ⟨p,n,tn,le,dh,dt,du⟩:=c
  cases T with
  | given hf=>exact ok_weak (ok_ltgP w (p:=p) (n:=n) (tn:=tn) (le:=le) (dh:=dh) (dt:=dt) (du:=du) (fs:=f) (ft:=ft) (pb:=pb) (pe:=pe) (e:=e) (vs:=vs) (wt:=wt) (mt:=mt) (gs:=gs) (ne_beq hf).1 I.hv I.hw I.hm I.hs I.he (ne_beq hf).2 hl1 hl2 I.hl hg hlt) rfl rfl (Nat.le_refl _) rfl rfl fun μ θ=>⟨two (θ 0) ft,two_z _ _,rfl,rfl,rfl⟩
  | taken h t pb' e1 e2 hf hb =>
    subst e1 e2
    exact ok_weak (ok_lttP w (p:=p) (n:=n) (tn:=tn) (le:=le) (dh:=dh) (dt:=dt) (du:=du) (ut:=ft) (fs:=h) (ft:=ht) (pb:=pb') (pe:=pe) (e:=e) (vs:=vs) (wt:=wt) (mt:=mt) (gs:=gs) (ne_beq hf).1 hb I.hv I.hw I.hm I.hs I.he (ne_beq hf).2 hl1 hl2 I.hl hg hlt) rfl rfl (Nat.le_refl _) rfl rfl fun μ θ=>⟨two (θ 0) ht,two_z _ _,rfl,rfl,rfl⟩
theorem ok_uP0 {w:World}{c:Lx}{ft pe e:Nat}{vs:List Value}{wh:Str}{wt:Nat}{ml:Str}{mt:Nat}(I:ItemOk vs wh ml):(X_uP c ⟨#[]⟩ ft [] pe e ⟨#[]⟩ [] pe vs wh wt ml mt).Ok w:=by
  obtain ⟨p,n,tn,le,dh,dt,du⟩:=c
  exact ok_weak (ok_ltnP w (p:=p) (n:=n) (tn:=tn) (le:=le) (dh:=dh) (dt:=dt) (du:=du) (ut:=ft) (pe:=pe) (e:=e) (vs:=vs) (wt:=wt) (mt:=mt) I.hv I.hw I.hm I.hs I.he) rfl rfl (Nat.le_refl _) rfl rfl fun μ θ=>⟨two (θ 0) (θ 1),two_z _ _,rfl,rfl,rfl⟩
theorem con_getL {w:World}{d:Nat}{a:Addr}{vs:List Value}{e:Nat}{i:Int}{u:Tok}{v:Value}(h0:0≤i)(hi:i<2 ^ 63)(hv:vs[i.toNat]?=some v) :
    Con w d (.builtin "list.__getitem__" ⟨[.ref a,.int i u],[]⟩) [a] [lst vs e] (fun r os nw=>r=.ok (.ret v)∧os=[lst vs e]∧nw=[]):=by
  refine con_builtin (b:=Builtin.«list.__getitem__») (by decide +kernel) (entryFor_of_tree (by kernel_rfl)) fun A s R sA hg hpre hnd hout hR=>?_
  have ho:=(has_cons.mp hpre).1
  show wpAny _ _ (Builtin.List.listSubscript? (.int i u) >>= _) _ _ s
  refine wpAny_bind (wpAny_listSubscript_int (fitsIndex_of h0 hi) ?_)
  obtain ⟨j,rfl⟩:=Int.eq_ofNat_of_zero_le h0
  have hx':vs.toArray[j]?=some v:=by simpa using hv
  show wpAny _ _ ((seqItemAt a j >>= fun r=>pure (r.map (j,·))) >>= _) _ _ s
  refine wpAny_bind (wpAny_bind (wpAny_seqItemAt ho rfl (wpAny_pure ?_)))
  rw [hx']
  have z:R (.ok (.ret v)) s:=hR _ _ ⟨[lst vs e],[],⟨rfl,rfl,rfl⟩,hpre,(fun _ h=>by cases h),List.nodup_nil,After.same' hg⟩
  first
    | exact wpAny_bind (wpAny_pure (wpAny_pure z))
    | exact wpAny_pure z
noncomputable def sepS (k:Nat):Str:=if k%3=0 then ⟨#[10]⟩ else if k%3=1 then ⟨#[13]⟩ else ⟨#[13,10]⟩
noncomputable def X_get3 (k u ta tb tc:Nat):Spec:={ n0:=1,k:=0,nt:=1,d:=900,code:=fun J=>.builtin "list.__getitem__" ⟨[.ref (J 0),.int ((k%3:Nat):Int) u],[]⟩,pre:=fun _=>[lst [.str ⟨#[10]⟩ ta,.str ⟨#[13]⟩ tb,.str ⟨#[13,10]⟩ tc] 0],res:=fun _ θ=>.ok (.ret (.str (sepS k) (θ 0))),post:=fun _ _=>[lst [.str ⟨#[10]⟩ ta,.str ⟨#[13]⟩ tb,.str ⟨#[13,10]⟩ tc] 0],new:=fun _ _=>[] }
theorem ok_get3 {w:World}{k u ta tb tc:Nat}:(X_get3 k u ta tb tc).Ok w:=by
  refine ok_of_con fun J=>?_
  have hk:k%3<3:=Nat.mod_lt _ (by decide)
  obtain ⟨t,ht⟩:∃ t,([.str ⟨#[10]⟩ ta,.str ⟨#[13]⟩ tb,.str ⟨#[13,10]⟩ tc]:List Value)[k%3]?=some (.str (sepS k) t):=by
    unfold sepS
    rcases (by omega:k%3=0∨k%3=1∨k%3=2) with h | h | h<;>rw [h]
    · exact ⟨ta,rfl⟩
    · exact ⟨tb,rfl⟩
    · exact ⟨tc,rfl⟩
  exact (con_getL (w:=w) (d:=900) (a:=J 0) (e:=0) (u:=u) (i:=((k%3:Nat):Int)) (by omega) (by omega) ht).mono fun r os nw ⟨h1,h2,h3⟩=>⟨[t],rfl,by rw [h3];rfl,h1,h2,by rw [h3];rfl⟩
noncomputable def X_mod3 (k t u:Nat):Spec:=X_tok (.builtin "int.__mod__" ⟨[.int k t,.int 3 u],[]⟩) (fun t=>.int ((k%3:Nat):Int) t)
noncomputable def fnS (n:Nat):Scope:=match prg.main.body.drop n with
  | .FunctionDef (scope:=s) ..::_=>s
  | _=>default
noncomputable def llB:List Stmt:=fnB 15
noncomputable def llFor:Expr×List Stmt:=match llB.drop 1 with
  | .For t _ b _ _::_=>(t,b)
  | _=>(default,[])
noncomputable def llE (fr:Nat):Env:={ scope:=fnS 15,locals:=fr,globals:=3,cells:=[],qual:=("_law_last.<locals>." : Str),func:=some 202,code:=.ref 201,frame:=some fr,builtins:=0 }
noncomputable abbrev sPile:Str:=⟨#[112,105,108,101]⟩
noncomputable abbrev sLine:Str:=⟨#[108,105,110,101]⟩
noncomputable abbrev sCount:Str:=⟨#[99,111,117,110,116]⟩
noncomputable abbrev sFront:Str:=⟨#[102,114,111,110,116]⟩
noncomputable abbrev sK:Str:=⟨#[107]⟩
noncomputable abbrev sOne:Str:=⟨#[111,110,101]⟩
noncomputable abbrev sTwo:Str:=⟨#[116,119,111]⟩
noncomputable abbrev sBare:Str:=⟨#[98,97,114,101]⟩
noncomputable abbrev sBlanks:Str:=⟨#[98,108,97,110,107,115]⟩
noncomputable def frL (hh:Nat→Int)(kk:Nat→Nat)(pile line ct:Nat)(fs:Str)(ft:Nat)(more:List Value)(ep:Nat):Obj :=
  frm (⟨hh 0,.str sPile (kk 0),.ref pile⟩::⟨hh 1,.str sLine (kk 1),.ref line⟩::⟨hh 2,.str sCount (kk 2),.int 5 ct⟩::⟨hh 3,.str sFront (kk 3),.str fs ft⟩ ::
    (match more with
      | []=>[]
      | k::more=>⟨hh 4,.str sK (kk 4),k⟩::(match more with
        | [a,b,c,d]=>[⟨hh 5,.str sOne (kk 5),a⟩,⟨hh 6,.str sTwo (kk 6),b⟩,⟨hh 7,.str sBare (kk 7),c⟩,⟨hh 8,.str sBlanks (kk 8),d⟩]
        | _=>[]))) ep
noncomputable def hOf (P:Params)(hh:Nat→Int):Nat→Int:=fun j=>match j with
  | 5=>hsh P sOne
  | 6=>hsh P sTwo
  | 7=>hsh P sBare
  | 8=>hsh P sBlanks
  | j=>hh j
noncomputable def kOf (kk:Nat→Nat)(a b c d:Nat):Nat→Nat:=fun j=>match j with
  | 5=>a
  | 6=>b
  | 7=>c
  | 8=>d
  | j=>kk j
end
section
open PySem PySem.W PySem.W.X PySem.Spec PySem.Calls
set_option maxHeartbeats 0
noncomputable def X_b0PP (Pw:Params)(ia:Nat)(c:Lx)(hh:Nat→Int)(kk:Nat→Nat)(ct:Nat)(fs:Str)(ft kx kt:Nat)(pb:List Value)(pe es:Nat)(h1:Str)(pb1:List Value)(pe1:Nat)(h2:Str)(pb2:List Value)(pe2:Nat)(vs:List Value)(wa:Str)(wat:Nat)(ma:Str)(mat:Nat)(wb:Str)(wbt:Nat)(mb:Str)(mbt:Nat)(g1 g2:Str):Spec:={ n0:=14,k:=1,nt:=11,d:=390,code:=fun J=>.forLoop llFor.1 (.ref ia) llFor.2 [] (llE (J 0)),pre:=fun J=>([frL hh kk (J 1) (J 3) ct fs ft [.int (kx:Nat) kt] 5,accO (J 2) (vs++[.ref (J 13)]++[.ref (J 12)]) es,accD c.2.2.2.2.1 c.2.2.2.2.2.1 c.2.2.2.2.2.2]++strm c.1 J 3 (.int c.2.1 c.2.2.1) (J 11) [] c.2.2.2.1++[lst pb pe]++[tupO [.str wa wat,.str ma mat],tupO [.str wb wbt,.str mb mbt]]),res:=fun J Z=>.ok .next,post:=fun J Z=>([frL (hOf Pw hh) (kOf kk (Z 7) (Z 8) (Z 9) (Z 10)) (J 1) (J 3) ct h2 (Z 0) [.int (kx:Nat) kt,.str (wa++ma) (Z 1),.str (wb++mb) (Z 5),.ref (J 14),.int ((((wa++ma).length:Int)+((wb++mb).length:Int))-(g1.length:Int)-(g2.length:Int)) (Z 6)] 9,accO (J 2) vs ((es+1)+1),accD c.2.2.2.2.1 c.2.2.2.2.2.1 c.2.2.2.2.2.2]++strm c.1 J 3 (.int c.2.1 c.2.2.1) (J 11) [] c.2.2.2.1++[lst (pb2++[.str (sp ((((wa++ma).length:Int)+((wb++mb).length:Int))-(g1.length:Int)-(g2.length:Int)).toNat++qd (g1++sepS kx++g2)) (Z 4)]) (pe2+1)]++[tupO [.str wa wat,.str ma mat],tupO [.str wb wbt,.str mb mbt]]),new:=fun J Z=>[lst [.str g1 (Z 2),.str g2 (Z 3)] 0] }
noncomputable def b0PP_hs (b1 b2:Bool):List Nat:=[0,1,1,1,0,15,15,15,15,16,16,16,16,16,15,16,16,16,16,16,16,15,16,16,16,16,16,16,15,16,16,18,1,1,1,1,0,1,1,1,0,19,19,19,19,20,20,20,20,20,19,20,20,20,20,20,20,19,20,20,20,20,20,20,19,20,20,22,1,1,1,1,1,1,1,1,0,0,1,0,0,1,0,0,1,23,23,23,23,23,0,0,1,23,23,23,23,23,1,1,1,4,0,0,0,4,0,0,0,4,0,0,0,0,4,5,1,0,1,24,24,24,24,1,0,0]
noncomputable def b0PP_cs (Pw:Params)(ia:Nat)(c:Lx)(hh:Nat→Int)(kk:Nat→Nat)(ct:Nat)(fs:Str)(ft kx kt:Nat)(pb:List Value)(pe es:Nat)(h1:Str)(pb1:List Value)(pe1:Nat)(h2:Str)(pb2:List Value)(pe2:Nat)(vs:List Value)(wa:Str)(wat:Nat)(ma:Str)(mat:Nat)(wb:Str)(wbt:Nat)(mb:Str)(mbt:Nat)(g1 g2:Str)(b1 b2:Bool):List Ev:=[evX (fun J Z=>X_uP c fs ft pb pe es h1 pb1 pe1 (vs++[.ref (J 13)]) wa wat ma mat) [1,2,3,4,5,6,7,8,9,10,11,12] 0 14 0,evX (fun J Z=>X_uP c h1 (Z 1) pb1 pe1 (es+1) h2 pb2 pe2 vs wb wbt mb mbt) [1,2,3,4,5,6,7,8,9,10,11,13] 8 18 4,evX (fun J Z=>X_lstrip (wa++ma) (Z 0) (Z 8) g1) [] 9 22 9,evX (fun J Z=>X_lstrip (wb++mb) (Z 4) (Z 10) g2) [] 1 22 11,evX (fun J Z=>X_lenS (wa++ma) (Z 0)) [] 1 23 13,evX (fun J Z=>X_lenS (wb++mb) (Z 4)) [] 1 23 14,evX (fun J Z=>X_lenS g1 (Z 9)) [] 5 23 17,evX (fun J Z=>X_lenS g2 (Z 11)) [] 5 23 20,evX (fun J Z=>X_mul ((((wa++ma).length:Int)+((wb++mb).length:Int))-(g1.length:Int)-(g2.length:Int)) (Z 23) (Z 21)) [] 5 23 24,evX (fun J Z=>X_mod3 kx kt (Z 28)) [] 1 24 29,evX (fun J Z=>X_get3 kx (Z 29) (Z 25) (Z 26) (Z 27)) [23] 1 24 30,evX (fun J Z=>X_join2 (sepS kx) (Z 30) g1 (Z 9) g2 (Z 11) 0) [22] 2 24 31,evX (fun J Z=>X_qd (g1++sepS kx++g2) (Z 31)) [] 0 24 32,evX (fun J Z=>X_add (sp ((((wa++ma).length:Int)+((wb++mb).length:Int))-(g1.length:Int)-(g2.length:Int)).toNat) (Z 24) (qd (g1++sepS kx++g2)) (Z 32)) [] 1 24 33,evX (fun J Z=>X_push c.1.hf c.1.tf (.int c.2.1 c.2.2.1) (.ref (J 5)) pe2 c.1.e1 [] (sp ((((wa++ma).length:Int)+((wb++mb).length:Int))-(g1.length:Int)-(g2.length:Int)).toNat++qd (g1++sepS kx++g2)) (Z 33) pb2) [3,4,11] 0 24 34]
theorem run_b0PP (ia:Nat)(c:Lx)(hh:Nat→Int)(kk:Nat→Nat)(ct:Nat)(fs:Str)(ft kx kt:Nat)(pb:List Value)(pe es:Nat)(h1:Str)(pb1:List Value)(pe1:Nat)(h2:Str)(pb2:List Value)(pe2:Nat)(vs:List Value)(wa:Str)(wat:Nat)(ma:Str)(mat:Nat)(wb:Str)(wbt:Nat)(mb:Str)(mbt:Nat)(g1 g2:Str)(Pw:Params):∀ (b1 b2:Bool) (J Z:Nu),RE (X_b0PP Pw ia c hh kk ct fs ft kx kt pb pe es h1 pb1 pe1 h2 pb2 pe2 vs wa wat ma mat wb wbt mb mbt g1 g2) (fun J=>stD llFor.2 (llE (J 0))) Pw b1 b2 332 (b0PP_hs b1 b2) (b0PP_cs Pw ia c hh kk ct fs ft kx kt pb pe es h1 pb1 pe1 h2 pb2 pe2 vs wa wat ma mat wb wbt mb mbt g1 g2 b1 b2) [22] [5,0,9,11,33,4,21,2,6,12,22] J Z
  | true,b2,J,Z=>by kernel_rfl
  | false,b2,J,Z=>by kernel_rfl
theorem va_b0PP (w:World){ia:Nat}{c:Lx}{hh:Nat→Int}{kk:Nat→Nat}{ct:Nat}{fs:Str}{ft kx kt:Nat}{pb:List Value}{pe es:Nat}{h1:Str}{pb1:List Value}{pe1:Nat}{h2:Str}{pb2:List Value}{pe2:Nat}{vs:List Value}{wa:Str}{wat:Nat}{ma:Str}{mat:Nat}{wb:Str}{wbt:Nat}{mb:Str}{mbt:Nat}{g1 g2:Str}(H1:∀ J:Nu,(X_uP c fs ft pb pe es h1 pb1 pe1 (vs++[.ref (J 13)]) wa wat ma mat).Ok w)(H2:∀ t,(X_uP c h1 t pb1 pe1 (es+1) h2 pb2 pe2 vs wb wbt mb mbt).Ok w)(L1:∀ t u,(X_lstrip (wa++ma) t u g1).Ok w)(L2:∀ t u,(X_lstrip (wb++mb) t u g2).Ok w)(N1:(wa++ma).length≤sizeLine)(N2:(wb++mb).length≤sizeLine)(N3:g1.length≤sizeLine)(N4:g2.length≤sizeLine)(M1:∀ t u,(X_mul ((((wa++ma).length:Int)+((wb++mb).length:Int))-(g1.length:Int)-(g2.length:Int)) t u).Ok w)(J1:g1.length+(sepS kx).length+(g2.length+(sepS kx).length)≤sizeLine)(D1:(g1++sepS kx++g2).length≤2 ^ 17)(A1:∀ t u,(X_add (sp ((((wa++ma).length:Int)+((wb++mb).length:Int))-(g1.length:Int)-(g2.length:Int)).toNat) t (qd (g1++sepS kx++g2)) u).Ok w)(Q1:∀ t u,(X_mod3 kx t u).Ok w)(P1:pb2.length≤sizeLine)(b1 b2:Bool):ValidAll prg w (gl w.params) (b0PP_cs w.params ia c hh kk ct fs ft kx kt pb pe es h1 pb1 pe1 h2 pb2 pe2 vs wa wat ma mat wb wbt mb mbt g1 g2 b1 b2):=vc (fun J Z=>H1 J) rfl (vc (fun J Z=>H2 _) rfl (vc (fun J Z=>L1 _ _) rfl (vc (fun J Z=>L2 _ _) rfl (vc (fun J Z=>ok_lenS N1) rfl (vc (fun J Z=>ok_lenS N2) rfl (vc (fun J Z=>ok_lenS N3) rfl (vc (fun J Z=>ok_lenS N4) rfl (vc (fun J Z=>M1 _ _) rfl (vc (fun J Z=>Q1 _ _) rfl (vc (fun J Z=>ok_get3) rfl (vc (fun J Z=>ok_join2 J1) rfl (vc (fun J Z=>ok_qd w D1) rfl (vc (fun J Z=>A1 _ _) rfl (vc (fun J Z=>ok_push w P1) rfl (va_nil)))))))))))))))
noncomputable def X_bPP (ia:Nat)(c:Lx)(hh:Nat→Int)(kk:Nat→Nat)(ct:Nat)(fs:Str)(ft kx kt:Nat)(o1 o2 o3 o4:Value)(pb:List Value)(pe es:Nat)(h1:Str)(pb1:List Value)(pe1:Nat)(h2:Str)(pb2:List Value)(pe2:Nat)(vs:List Value)(wa:Str)(wat:Nat)(ma:Str)(mat:Nat)(wb:Str)(wbt:Nat)(mb:Str)(mbt:Nat)(g1 g2:Str):Spec:={ n0:=14,k:=1,nt:=7,d:=390,code:=fun J=>.forLoop llFor.1 (.ref ia) llFor.2 [] (llE (J 0)),pre:=fun J=>([frL hh kk (J 1) (J 3) ct fs ft [.int (kx:Nat) kt,o1,o2,o3,o4] 9,accO (J 2) (vs++[.ref (J 13)]++[.ref (J 12)]) es,accD c.2.2.2.2.1 c.2.2.2.2.2.1 c.2.2.2.2.2.2]++strm c.1 J 3 (.int c.2.1 c.2.2.1) (J 11) [] c.2.2.2.1++[lst pb pe]++[tupO [.str wa wat,.str ma mat],tupO [.str wb wbt,.str mb mbt]]),res:=fun J Z=>.ok .next,post:=fun J Z=>([frL hh kk (J 1) (J 3) ct h2 (Z 0) [.int (kx:Nat) kt,.str (wa++ma) (Z 1),.str (wb++mb) (Z 5),.ref (J 14),.int ((((wa++ma).length:Int)+((wb++mb).length:Int))-(g1.length:Int)-(g2.length:Int)) (Z 6)] 9,accO (J 2) vs ((es+1)+1),accD c.2.2.2.2.1 c.2.2.2.2.2.1 c.2.2.2.2.2.2]++strm c.1 J 3 (.int c.2.1 c.2.2.1) (J 11) [] c.2.2.2.1++[lst (pb2++[.str (sp ((((wa++ma).length:Int)+((wb++mb).length:Int))-(g1.length:Int)-(g2.length:Int)).toNat++qd (g1++sepS kx++g2)) (Z 4)]) (pe2+1)]++[tupO [.str wa wat,.str ma mat],tupO [.str wb wbt,.str mb mbt]]),new:=fun J Z=>[lst [.str g1 (Z 2),.str g2 (Z 3)] 0] }
noncomputable def bPP_hs (b1 b2:Bool):List Nat:=[0,1,1,1,0,15,15,15,15,16,16,16,16,16,15,16,16,16,16,16,16,15,16,16,16,16,16,16,15,16,16,18,1,1,1,1,0,1,1,1,0,19,19,19,19,20,20,20,20,20,19,20,20,20,20,20,20,19,20,20,20,20,20,20,19,20,20,22,1,1,1,1,1,1,1,1,0,0,1,0,0,1,0,0,1,23,23,23,23,23,0,0,1,23,23,23,23,23,1,1,1,4,0,0,0,4,0,0,0,4,0,0,0,0,4,5,1,0,1,24,24,24,24,1,0,0]
noncomputable def bPP_cs (Pw:Params)(ia:Nat)(c:Lx)(hh:Nat→Int)(kk:Nat→Nat)(ct:Nat)(fs:Str)(ft kx kt:Nat)(o1 o2 o3 o4:Value)(pb:List Value)(pe es:Nat)(h1:Str)(pb1:List Value)(pe1:Nat)(h2:Str)(pb2:List Value)(pe2:Nat)(vs:List Value)(wa:Str)(wat:Nat)(ma:Str)(mat:Nat)(wb:Str)(wbt:Nat)(mb:Str)(mbt:Nat)(g1 g2:Str)(b1 b2:Bool):List Ev:=[evX (fun J Z=>X_uP c fs ft pb pe es h1 pb1 pe1 (vs++[.ref (J 13)]) wa wat ma mat) [1,2,3,4,5,6,7,8,9,10,11,12] 0 14 0,evX (fun J Z=>X_uP c h1 (Z 1) pb1 pe1 (es+1) h2 pb2 pe2 vs wb wbt mb mbt) [1,2,3,4,5,6,7,8,9,10,11,13] 8 18 4,evX (fun J Z=>X_lstrip (wa++ma) (Z 0) (Z 8) g1) [] 9 22 9,evX (fun J Z=>X_lstrip (wb++mb) (Z 4) (Z 10) g2) [] 1 22 11,evX (fun J Z=>X_lenS (wa++ma) (Z 0)) [] 1 23 13,evX (fun J Z=>X_lenS (wb++mb) (Z 4)) [] 1 23 14,evX (fun J Z=>X_lenS g1 (Z 9)) [] 5 23 17,evX (fun J Z=>X_lenS g2 (Z 11)) [] 5 23 20,evX (fun J Z=>X_mul ((((wa++ma).length:Int)+((wb++mb).length:Int))-(g1.length:Int)-(g2.length:Int)) (Z 23) (Z 21)) [] 5 23 24,evX (fun J Z=>X_mod3 kx kt (Z 28)) [] 1 24 29,evX (fun J Z=>X_get3 kx (Z 29) (Z 25) (Z 26) (Z 27)) [23] 1 24 30,evX (fun J Z=>X_join2 (sepS kx) (Z 30) g1 (Z 9) g2 (Z 11) 0) [22] 2 24 31,evX (fun J Z=>X_qd (g1++sepS kx++g2) (Z 31)) [] 0 24 32,evX (fun J Z=>X_add (sp ((((wa++ma).length:Int)+((wb++mb).length:Int))-(g1.length:Int)-(g2.length:Int)).toNat) (Z 24) (qd (g1++sepS kx++g2)) (Z 32)) [] 1 24 33,evX (fun J Z=>X_push c.1.hf c.1.tf (.int c.2.1 c.2.2.1) (.ref (J 5)) pe2 c.1.e1 [] (sp ((((wa++ma).length:Int)+((wb++mb).length:Int))-(g1.length:Int)-(g2.length:Int)).toNat++qd (g1++sepS kx++g2)) (Z 33) pb2) [3,4,11] 0 24 34]
theorem run_bPP (ia:Nat)(c:Lx)(hh:Nat→Int)(kk:Nat→Nat)(ct:Nat)(fs:Str)(ft kx kt:Nat)(o1 o2 o3 o4:Value)(pb:List Value)(pe es:Nat)(h1:Str)(pb1:List Value)(pe1:Nat)(h2:Str)(pb2:List Value)(pe2:Nat)(vs:List Value)(wa:Str)(wat:Nat)(ma:Str)(mat:Nat)(wb:Str)(wbt:Nat)(mb:Str)(mbt:Nat)(g1 g2:Str)(Pw:Params):∀ (b1 b2:Bool) (J Z:Nu),RE (X_bPP ia c hh kk ct fs ft kx kt o1 o2 o3 o4 pb pe es h1 pb1 pe1 h2 pb2 pe2 vs wa wat ma mat wb wbt mb mbt g1 g2) (fun J=>stD llFor.2 (llE (J 0))) Pw b1 b2 332 (bPP_hs b1 b2) (bPP_cs Pw ia c hh kk ct fs ft kx kt o1 o2 o3 o4 pb pe es h1 pb1 pe1 h2 pb2 pe2 vs wa wat ma mat wb wbt mb mbt g1 g2 b1 b2) [22] [5,0,9,11,33,4,21] J Z
  | true,b2,J,Z=>by kernel_rfl
  | false,b2,J,Z=>by kernel_rfl
theorem va_bPP (w:World){ia:Nat}{c:Lx}{hh:Nat→Int}{kk:Nat→Nat}{ct:Nat}{fs:Str}{ft kx kt:Nat}{o1 o2 o3 o4:Value}{pb:List Value}{pe es:Nat}{h1:Str}{pb1:List Value}{pe1:Nat}{h2:Str}{pb2:List Value}{pe2:Nat}{vs:List Value}{wa:Str}{wat:Nat}{ma:Str}{mat:Nat}{wb:Str}{wbt:Nat}{mb:Str}{mbt:Nat}{g1 g2:Str}(H1:∀ J:Nu,(X_uP c fs ft pb pe es h1 pb1 pe1 (vs++[.ref (J 13)]) wa wat ma mat).Ok w)(H2:∀ t,(X_uP c h1 t pb1 pe1 (es+1) h2 pb2 pe2 vs wb wbt mb mbt).Ok w)(L1:∀ t u,(X_lstrip (wa++ma) t u g1).Ok w)(L2:∀ t u,(X_lstrip (wb++mb) t u g2).Ok w)(N1:(wa++ma).length≤sizeLine)(N2:(wb++mb).length≤sizeLine)(N3:g1.length≤sizeLine)(N4:g2.length≤sizeLine)(M1:∀ t u,(X_mul ((((wa++ma).length:Int)+((wb++mb).length:Int))-(g1.length:Int)-(g2.length:Int)) t u).Ok w)(J1:g1.length+(sepS kx).length+(g2.length+(sepS kx).length)≤sizeLine)(D1:(g1++sepS kx++g2).length≤2 ^ 17)(A1:∀ t u,(X_add (sp ((((wa++ma).length:Int)+((wb++mb).length:Int))-(g1.length:Int)-(g2.length:Int)).toNat) t (qd (g1++sepS kx++g2)) u).Ok w)(Q1:∀ t u,(X_mod3 kx t u).Ok w)(P1:pb2.length≤sizeLine)(b1 b2:Bool):ValidAll prg w (gl w.params) (bPP_cs w.params ia c hh kk ct fs ft kx kt o1 o2 o3 o4 pb pe es h1 pb1 pe1 h2 pb2 pe2 vs wa wat ma mat wb wbt mb mbt g1 g2 b1 b2):=vc (fun J Z=>H1 J) rfl (vc (fun J Z=>H2 _) rfl (vc (fun J Z=>L1 _ _) rfl (vc (fun J Z=>L2 _ _) rfl (vc (fun J Z=>ok_lenS N1) rfl (vc (fun J Z=>ok_lenS N2) rfl (vc (fun J Z=>ok_lenS N3) rfl (vc (fun J Z=>ok_lenS N4) rfl (vc (fun J Z=>M1 _ _) rfl (vc (fun J Z=>Q1 _ _) rfl (vc (fun J Z=>ok_get3) rfl (vc (fun J Z=>ok_join2 J1) rfl (vc (fun J Z=>ok_qd w D1) rfl (vc (fun J Z=>A1 _ _) rfl (vc (fun J Z=>ok_push w P1) rfl (va_nil)))))))))))))))
noncomputable def X_bPF (ia:Nat)(c:Lx)(hh:Nat→Int)(kk:Nat→Nat)(ct:Nat)(fs:Str)(ft kx kt:Nat)(o1 o2 o3 o4:Value)(pb:List Value)(pe es:Nat)(h1:Str)(pb1:List Value)(pe1:Nat)(h2:Str)(pb2:List Value)(pe2:Nat)(vs:List Value)(wa:Str)(wat:Nat)(ma:Str)(mat:Nat)(wb:Str)(wbt:Nat)(mb:Str)(mbt:Nat)(g1 g2:Str):Spec:={ n0:=14,k:=2,nt:=7,d:=390,code:=fun J=>.forLoop llFor.1 (.ref ia) llFor.2 [] (llE (J 0)),pre:=fun J=>([frL hh kk (J 1) (J 3) ct fs ft [.int (kx:Nat) kt,o1,o2,o3,o4] 9,accO (J 2) (vs++[.ref (J 13)]++[.ref (J 12)]) es,accD c.2.2.2.2.1 c.2.2.2.2.2.1 c.2.2.2.2.2.2]++strm c.1 J 3 (.int c.2.1 c.2.2.1) (J 11) [] c.2.2.2.1++[lst pb pe]++[tupO [.str wa wat,.str ma mat],tupO [.str wb wbt,.str mb mbt]]),res:=fun J Z=>.ok .next,post:=fun J Z=>([frL hh kk (J 1) (J 3) ct ⟨#[]⟩ (Z 0) [.int (kx:Nat) kt,.str (wa++ma) (Z 1),.str h2 (Z 5),.ref (J 14),.int ((((wa++ma).length:Int)+(h2.length:Int))-(g1.length:Int)-(g2.length:Int)) (Z 6)] 9,accO (J 2) (vs++[.ref (J 15)]) ((es+1)+1+1),accD c.2.2.2.2.1 c.2.2.2.2.2.1 c.2.2.2.2.2.2]++strm c.1 J 3 (.int c.2.1 c.2.2.1) (J 11) [] c.2.2.2.1++[lst (pb2++[.str (sp ((((wa++ma).length:Int)+(h2.length:Int))-(g1.length:Int)-(g2.length:Int)).toNat++qd (g1++sepS kx++g2)) (Z 4)]) (pe2+1)]++[tupO [.str wa wat,.str ma mat],tupO [.str wb wbt,.str mb mbt]]),new:=fun J Z=>[lst [.str g1 (Z 2),.str g2 (Z 3)] 0,tupO [.str wb wbt,.str mb mbt]] }
noncomputable def bPF_hs (b1 b2:Bool):List Nat:=[0,1,1,1,0,15,15,15,15,16,16,16,16,16,15,16,16,16,16,16,16,15,16,16,16,16,16,16,15,16,16,18,1,1,1,1,0,1,1,1,0,19,19,19,19,21,21,21,21,21,19,21,21,21,21,21,21,19,21,21,21,21,21,21,19,21,21,23,1,1,1,1,1,1,1,1,0,0,1,0,0,1,0,0,1,24,24,24,24,24,0,0,1,24,24,24,24,24,1,1,1,4,0,0,0,4,0,0,0,4,0,0,0,0,4,5,1,0,1,25,25,25,25,1,0,0]
noncomputable def bPF_cs (Pw:Params)(ia:Nat)(c:Lx)(hh:Nat→Int)(kk:Nat→Nat)(ct:Nat)(fs:Str)(ft kx kt:Nat)(o1 o2 o3 o4:Value)(pb:List Value)(pe es:Nat)(h1:Str)(pb1:List Value)(pe1:Nat)(h2:Str)(pb2:List Value)(pe2:Nat)(vs:List Value)(wa:Str)(wat:Nat)(ma:Str)(mat:Nat)(wb:Str)(wbt:Nat)(mb:Str)(mbt:Nat)(g1 g2:Str)(b1 b2:Bool):List Ev:=[evX (fun J Z=>X_uP c fs ft pb pe es h1 pb1 pe1 (vs++[.ref (J 13)]) wa wat ma mat) [1,2,3,4,5,6,7,8,9,10,11,12] 0 14 0,evX (fun J Z=>X_uF c h1 (Z 1) pb1 pe1 (es+1) h2 pb2 pe2 vs wb wbt mb mbt) [1,2,3,4,5,6,7,8,9,10,11,13] 8 18 4,evX (fun J Z=>X_lstrip (wa++ma) (Z 0) (Z 8) g1) [] 9 23 9,evX (fun J Z=>X_lstrip h2 (Z 4) (Z 10) g2) [] 1 23 11,evX (fun J Z=>X_lenS (wa++ma) (Z 0)) [] 1 24 13,evX (fun J Z=>X_lenS h2 (Z 4)) [] 1 24 14,evX (fun J Z=>X_lenS g1 (Z 9)) [] 5 24 17,evX (fun J Z=>X_lenS g2 (Z 11)) [] 5 24 20,evX (fun J Z=>X_mul ((((wa++ma).length:Int)+(h2.length:Int))-(g1.length:Int)-(g2.length:Int)) (Z 23) (Z 21)) [] 5 24 24,evX (fun J Z=>X_mod3 kx kt (Z 28)) [] 1 25 29,evX (fun J Z=>X_get3 kx (Z 29) (Z 25) (Z 26) (Z 27)) [24] 1 25 30,evX (fun J Z=>X_join2 (sepS kx) (Z 30) g1 (Z 9) g2 (Z 11) 0) [23] 2 25 31,evX (fun J Z=>X_qd (g1++sepS kx++g2) (Z 31)) [] 0 25 32,evX (fun J Z=>X_add (sp ((((wa++ma).length:Int)+(h2.length:Int))-(g1.length:Int)-(g2.length:Int)).toNat) (Z 24) (qd (g1++sepS kx++g2)) (Z 32)) [] 1 25 33,evX (fun J Z=>X_push c.1.hf c.1.tf (.int c.2.1 c.2.2.1) (.ref (J 5)) pe2 c.1.e1 [] (sp ((((wa++ma).length:Int)+(h2.length:Int))-(g1.length:Int)-(g2.length:Int)).toNat++qd (g1++sepS kx++g2)) (Z 33) pb2) [3,4,11] 0 25 34]
theorem run_bPF (ia:Nat)(c:Lx)(hh:Nat→Int)(kk:Nat→Nat)(ct:Nat)(fs:Str)(ft kx kt:Nat)(o1 o2 o3 o4:Value)(pb:List Value)(pe es:Nat)(h1:Str)(pb1:List Value)(pe1:Nat)(h2:Str)(pb2:List Value)(pe2:Nat)(vs:List Value)(wa:Str)(wat:Nat)(ma:Str)(mat:Nat)(wb:Str)(wbt:Nat)(mb:Str)(mbt:Nat)(g1 g2:Str)(Pw:Params):∀ (b1 b2:Bool) (J Z:Nu),RE (X_bPF ia c hh kk ct fs ft kx kt o1 o2 o3 o4 pb pe es h1 pb1 pe1 h2 pb2 pe2 vs wa wat ma mat wb wbt mb mbt g1 g2) (fun J=>stD llFor.2 (llE (J 0))) Pw b1 b2 332 (bPF_hs b1 b2) (bPF_cs Pw ia c hh kk ct fs ft kx kt o1 o2 o3 o4 pb pe es h1 pb1 pe1 h2 pb2 pe2 vs wa wat ma mat wb wbt mb mbt g1 g2 b1 b2) [23,19] [5,0,9,11,33,4,21] J Z
  | true,b2,J,Z=>by kernel_rfl
  | false,b2,J,Z=>by kernel_rfl
theorem va_bPF (w:World){ia:Nat}{c:Lx}{hh:Nat→Int}{kk:Nat→Nat}{ct:Nat}{fs:Str}{ft kx kt:Nat}{o1 o2 o3 o4:Value}{pb:List Value}{pe es:Nat}{h1:Str}{pb1:List Value}{pe1:Nat}{h2:Str}{pb2:List Value}{pe2:Nat}{vs:List Value}{wa:Str}{wat:Nat}{ma:Str}{mat:Nat}{wb:Str}{wbt:Nat}{mb:Str}{mbt:Nat}{g1 g2:Str}(H1:∀ J:Nu,(X_uP c fs ft pb pe es h1 pb1 pe1 (vs++[.ref (J 13)]) wa wat ma mat).Ok w)(H2:∀ t,(X_uF c h1 t pb1 pe1 (es+1) h2 pb2 pe2 vs wb wbt mb mbt).Ok w)(L1:∀ t u,(X_lstrip (wa++ma) t u g1).Ok w)(L2:∀ t u,(X_lstrip h2 t u g2).Ok w)(N1:(wa++ma).length≤sizeLine)(N2:h2.length≤sizeLine)(N3:g1.length≤sizeLine)(N4:g2.length≤sizeLine)(M1:∀ t u,(X_mul ((((wa++ma).length:Int)+(h2.length:Int))-(g1.length:Int)-(g2.length:Int)) t u).Ok w)(J1:g1.length+(sepS kx).length+(g2.length+(sepS kx).length)≤sizeLine)(D1:(g1++sepS kx++g2).length≤2 ^ 17)(A1:∀ t u,(X_add (sp ((((wa++ma).length:Int)+(h2.length:Int))-(g1.length:Int)-(g2.length:Int)).toNat) t (qd (g1++sepS kx++g2)) u).Ok w)(Q1:∀ t u,(X_mod3 kx t u).Ok w)(P1:pb2.length≤sizeLine)(b1 b2:Bool):ValidAll prg w (gl w.params) (bPF_cs w.params ia c hh kk ct fs ft kx kt o1 o2 o3 o4 pb pe es h1 pb1 pe1 h2 pb2 pe2 vs wa wat ma mat wb wbt mb mbt g1 g2 b1 b2):=vc (fun J Z=>H1 J) rfl (vc (fun J Z=>H2 _) rfl (vc (fun J Z=>L1 _ _) rfl (vc (fun J Z=>L2 _ _) rfl (vc (fun J Z=>ok_lenS N1) rfl (vc (fun J Z=>ok_lenS N2) rfl (vc (fun J Z=>ok_lenS N3) rfl (vc (fun J Z=>ok_lenS N4) rfl (vc (fun J Z=>M1 _ _) rfl (vc (fun J Z=>Q1 _ _) rfl (vc (fun J Z=>ok_get3) rfl (vc (fun J Z=>ok_join2 J1) rfl (vc (fun J Z=>ok_qd w D1) rfl (vc (fun J Z=>A1 _ _) rfl (vc (fun J Z=>ok_push w P1) rfl (va_nil)))))))))))))))
noncomputable def X_bPE (ia:Nat)(c:Lx)(hh:Nat→Int)(kk:Nat→Nat)(ct:Nat)(fs:Str)(ft kx kt:Nat)(o1 o2 o3 o4:Value)(pb:List Value)(pe es:Nat)(h1:Str)(pb1:List Value)(pe1:Nat)(h2:Str)(pb2:List Value)(pe2:Nat)(vs:List Value)(wa:Str)(wat:Nat)(ma:Str)(mat:Nat)(g1 g2:Str):Spec:={ n0:=13,k:=1,nt:=7,d:=390,code:=fun J=>.forLoop llFor.1 (.ref ia) llFor.2 [] (llE (J 0)),pre:=fun J=>([frL hh kk (J 1) (J 3) ct fs ft [.int (kx:Nat) kt,o1,o2,o3,o4] 9,accO (J 2) [.ref (J 12)] es,accD c.2.2.2.2.1 c.2.2.2.2.2.1 c.2.2.2.2.2.2]++strm c.1 J 3 (.int c.2.1 c.2.2.1) (J 11) [] c.2.2.2.1++[lst pb pe]++[tupO [.str wa wat,.str ma mat]]),res:=fun J Z=>.ok .next,post:=fun J Z=>([frL hh kk (J 1) (J 3) ct ⟨#[]⟩ (Z 0) [.int (kx:Nat) kt,.str (wa++ma) (Z 1),.str h2 (Z 5),.ref (J 13),.int ((((wa++ma).length:Int)+(h2.length:Int))-(g1.length:Int)-(g2.length:Int)) (Z 6)] 9,accO (J 2) [] (es+1),accD c.2.2.2.2.1 c.2.2.2.2.2.1 c.2.2.2.2.2.2]++strm c.1 J 3 (.int c.2.1 c.2.2.1) (J 11) [] c.2.2.2.1++[lst (pb2++[.str (sp ((((wa++ma).length:Int)+(h2.length:Int))-(g1.length:Int)-(g2.length:Int)).toNat++qd (g1++sepS kx++g2)) (Z 4)]) (pe2+1)]++[tupO [.str wa wat,.str ma mat]]),new:=fun J Z=>[lst [.str g1 (Z 2),.str g2 (Z 3)] 0] }
noncomputable def bPE_hs (b1 b2:Bool):List Nat:=[0,1,1,1,0,14,14,14,14,15,15,15,15,15,14,15,15,15,15,15,15,14,15,15,15,15,15,15,14,15,15,17,1,1,1,1,0,1,1,1,0,18,18,18,18,19,19,19,19,19,18,19,19,19,19,19,19,18,19,19,19,19,19,19,18,19,19,21,1,1,1,1,1,1,1,1,0,0,1,0,0,1,0,0,1,22,22,22,22,22,0,0,1,22,22,22,22,22,1,1,1,4,0,0,0,4,0,0,0,4,0,0,0,0,4,5,1,0,1,23,23,23,23,1,0,0]
noncomputable def bPE_cs (Pw:Params)(ia:Nat)(c:Lx)(hh:Nat→Int)(kk:Nat→Nat)(ct:Nat)(fs:Str)(ft kx kt:Nat)(o1 o2 o3 o4:Value)(pb:List Value)(pe es:Nat)(h1:Str)(pb1:List Value)(pe1:Nat)(h2:Str)(pb2:List Value)(pe2:Nat)(vs:List Value)(wa:Str)(wat:Nat)(ma:Str)(mat:Nat)(g1 g2:Str)(b1 b2:Bool):List Ev:=[evX (fun J Z=>X_uP c fs ft pb pe es h1 pb1 pe1 [] wa wat ma mat) [1,2,3,4,5,6,7,8,9,10,11,12] 0 13 0,evX (fun J Z=>X_uE c h1 (Z 1) pb1 pe1 (es+1) h2 pb2 pe2) [1,2,3,4,5,6,7,8,9,10,11] 8 17 4,evX (fun J Z=>X_lstrip (wa++ma) (Z 0) (Z 8) g1) [] 9 21 9,evX (fun J Z=>X_lstrip h2 (Z 4) (Z 10) g2) [] 1 21 11,evX (fun J Z=>X_lenS (wa++ma) (Z 0)) [] 1 22 13,evX (fun J Z=>X_lenS h2 (Z 4)) [] 1 22 14,evX (fun J Z=>X_lenS g1 (Z 9)) [] 5 22 17,evX (fun J Z=>X_lenS g2 (Z 11)) [] 5 22 20,evX (fun J Z=>X_mul ((((wa++ma).length:Int)+(h2.length:Int))-(g1.length:Int)-(g2.length:Int)) (Z 23) (Z 21)) [] 5 22 24,evX (fun J Z=>X_mod3 kx kt (Z 28)) [] 1 23 29,evX (fun J Z=>X_get3 kx (Z 29) (Z 25) (Z 26) (Z 27)) [22] 1 23 30,evX (fun J Z=>X_join2 (sepS kx) (Z 30) g1 (Z 9) g2 (Z 11) 0) [21] 2 23 31,evX (fun J Z=>X_qd (g1++sepS kx++g2) (Z 31)) [] 0 23 32,evX (fun J Z=>X_add (sp ((((wa++ma).length:Int)+(h2.length:Int))-(g1.length:Int)-(g2.length:Int)).toNat) (Z 24) (qd (g1++sepS kx++g2)) (Z 32)) [] 1 23 33,evX (fun J Z=>X_push c.1.hf c.1.tf (.int c.2.1 c.2.2.1) (.ref (J 5)) pe2 c.1.e1 [] (sp ((((wa++ma).length:Int)+(h2.length:Int))-(g1.length:Int)-(g2.length:Int)).toNat++qd (g1++sepS kx++g2)) (Z 33) pb2) [3,4,11] 0 23 34]
theorem run_bPE (ia:Nat)(c:Lx)(hh:Nat→Int)(kk:Nat→Nat)(ct:Nat)(fs:Str)(ft kx kt:Nat)(o1 o2 o3 o4:Value)(pb:List Value)(pe es:Nat)(h1:Str)(pb1:List Value)(pe1:Nat)(h2:Str)(pb2:List Value)(pe2:Nat)(vs:List Value)(wa:Str)(wat:Nat)(ma:Str)(mat:Nat)(g1 g2:Str)(Pw:Params):∀ (b1 b2:Bool) (J Z:Nu),RE (X_bPE ia c hh kk ct fs ft kx kt o1 o2 o3 o4 pb pe es h1 pb1 pe1 h2 pb2 pe2 vs wa wat ma mat g1 g2) (fun J=>stD llFor.2 (llE (J 0))) Pw b1 b2 332 (bPE_hs b1 b2) (bPE_cs Pw ia c hh kk ct fs ft kx kt o1 o2 o3 o4 pb pe es h1 pb1 pe1 h2 pb2 pe2 vs wa wat ma mat g1 g2 b1 b2) [21] [5,0,9,11,33,4,21] J Z
  | true,b2,J,Z=>by kernel_rfl
  | false,b2,J,Z=>by kernel_rfl
theorem va_bPE (w:World){ia:Nat}{c:Lx}{hh:Nat→Int}{kk:Nat→Nat}{ct:Nat}{fs:Str}{ft kx kt:Nat}{o1 o2 o3 o4:Value}{pb:List Value}{pe es:Nat}{h1:Str}{pb1:List Value}{pe1:Nat}{h2:Str}{pb2:List Value}{pe2:Nat}{vs:List Value}{wa:Str}{wat:Nat}{ma:Str}{mat:Nat}{g1 g2:Str}(H1:∀ J:Nu,(X_uP c fs ft pb pe es h1 pb1 pe1 [] wa wat ma mat).Ok w)(H2:∀ t,(X_uE c h1 t pb1 pe1 (es+1) h2 pb2 pe2).Ok w)(L1:∀ t u,(X_lstrip (wa++ma) t u g1).Ok w)(L2:∀ t u,(X_lstrip h2 t u g2).Ok w)(N1:(wa++ma).length≤sizeLine)(N2:h2.length≤sizeLine)(N3:g1.length≤sizeLine)(N4:g2.length≤sizeLine)(M1:∀ t u,(X_mul ((((wa++ma).length:Int)+(h2.length:Int))-(g1.length:Int)-(g2.length:Int)) t u).Ok w)(J1:g1.length+(sepS kx).length+(g2.length+(sepS kx).length)≤sizeLine)(D1:(g1++sepS kx++g2).length≤2 ^ 17)(A1:∀ t u,(X_add (sp ((((wa++ma).length:Int)+(h2.length:Int))-(g1.length:Int)-(g2.length:Int)).toNat) t (qd (g1++sepS kx++g2)) u).Ok w)(Q1:∀ t u,(X_mod3 kx t u).Ok w)(P1:pb2.length≤sizeLine)(b1 b2:Bool):ValidAll prg w (gl w.params) (bPE_cs w.params ia c hh kk ct fs ft kx kt o1 o2 o3 o4 pb pe es h1 pb1 pe1 h2 pb2 pe2 vs wa wat ma mat g1 g2 b1 b2):=vc (fun J Z=>H1 J) rfl (vc (fun J Z=>H2 _) rfl (vc (fun J Z=>L1 _ _) rfl (vc (fun J Z=>L2 _ _) rfl (vc (fun J Z=>ok_lenS N1) rfl (vc (fun J Z=>ok_lenS N2) rfl (vc (fun J Z=>ok_lenS N3) rfl (vc (fun J Z=>ok_lenS N4) rfl (vc (fun J Z=>M1 _ _) rfl (vc (fun J Z=>Q1 _ _) rfl (vc (fun J Z=>ok_get3) rfl (vc (fun J Z=>ok_join2 J1) rfl (vc (fun J Z=>ok_qd w D1) rfl (vc (fun J Z=>A1 _ _) rfl (vc (fun J Z=>ok_push w P1) rfl (va_nil)))))))))))))))
noncomputable def X_bFP (ia:Nat)(c:Lx)(hh:Nat→Int)(kk:Nat→Nat)(ct:Nat)(fs:Str)(ft kx kt:Nat)(o1 o2 o3 o4:Value)(pb:List Value)(pe es:Nat)(h1:Str)(pb1:List Value)(pe1:Nat)(h2:Str)(pb2:List Value)(pe2:Nat)(vs:List Value)(wa:Str)(wat:Nat)(ma:Str)(mat:Nat)(g1 g2:Str):Spec:={ n0:=13,k:=1,nt:=7,d:=390,code:=fun J=>.forLoop llFor.1 (.ref ia) llFor.2 [] (llE (J 0)),pre:=fun J=>([frL hh kk (J 1) (J 3) ct fs ft [.int (kx:Nat) kt,o1,o2,o3,o4] 9,accO (J 2) (vs++[.ref (J 12)]) es,accD c.2.2.2.2.1 c.2.2.2.2.2.1 c.2.2.2.2.2.2]++strm c.1 J 3 (.int c.2.1 c.2.2.1) (J 11) [] c.2.2.2.1++[lst pb pe]++[tupO [.str wa wat,.str ma mat]]),res:=fun J Z=>.ok .next,post:=fun J Z=>([frL hh kk (J 1) (J 3) ct h2 (Z 0) [.int (kx:Nat) kt,.str h1 (Z 1),.str (wa++ma) (Z 5),.ref (J 13),.int (((h1.length:Int)+((wa++ma).length:Int))-(g1.length:Int)-(g2.length:Int)) (Z 6)] 9,accO (J 2) vs ((es+1+1)+1),accD c.2.2.2.2.1 c.2.2.2.2.2.1 c.2.2.2.2.2.2]++strm c.1 J 3 (.int c.2.1 c.2.2.1) (J 11) [] c.2.2.2.1++[lst (pb2++[.str (sp (((h1.length:Int)+((wa++ma).length:Int))-(g1.length:Int)-(g2.length:Int)).toNat++qd (g1++sepS kx++g2)) (Z 4)]) (pe2+1)]++[tupO [.str wa wat,.str ma mat]]),new:=fun J Z=>[lst [.str g1 (Z 2),.str g2 (Z 3)] 0] }
noncomputable def bFP_hs (b1 b2:Bool):List Nat:=[0,1,1,1,0,14,14,14,14,16,16,16,16,16,14,16,16,16,16,16,16,14,16,16,16,16,16,16,14,16,16,18,1,1,1,1,0,1,1,1,0,19,19,19,19,20,20,20,20,20,19,20,20,20,20,20,20,19,20,20,20,20,20,20,19,20,20,22,1,1,1,1,1,1,1,1,0,0,1,0,0,1,0,0,1,23,23,23,23,23,0,0,1,23,23,23,23,23,1,1,1,4,0,0,0,4,0,0,0,4,0,0,0,0,4,5,1,0,1,24,24,24,24,1,0,0]
noncomputable def bFP_cs (Pw:Params)(ia:Nat)(c:Lx)(hh:Nat→Int)(kk:Nat→Nat)(ct:Nat)(fs:Str)(ft kx kt:Nat)(o1 o2 o3 o4:Value)(pb:List Value)(pe es:Nat)(h1:Str)(pb1:List Value)(pe1:Nat)(h2:Str)(pb2:List Value)(pe2:Nat)(vs:List Value)(wa:Str)(wat:Nat)(ma:Str)(mat:Nat)(g1 g2:Str)(b1 b2:Bool):List Ev:=[evX (fun J Z=>X_uF c fs ft pb pe es h1 pb1 pe1 vs wa wat ma mat) [1,2,3,4,5,6,7,8,9,10,11,12] 0 13 0,evX (fun J Z=>X_uP c ⟨#[]⟩ (Z 1) pb1 pe1 (es+1+1) h2 pb2 pe2 vs wa wat ma mat) [1,2,3,4,5,6,7,8,9,10,11,14] 8 18 4,evX (fun J Z=>X_lstrip h1 (Z 0) (Z 8) g1) [] 9 22 9,evX (fun J Z=>X_lstrip (wa++ma) (Z 4) (Z 10) g2) [] 1 22 11,evX (fun J Z=>X_lenS h1 (Z 0)) [] 1 23 13,evX (fun J Z=>X_lenS (wa++ma) (Z 4)) [] 1 23 14,evX (fun J Z=>X_lenS g1 (Z 9)) [] 5 23 17,evX (fun J Z=>X_lenS g2 (Z 11)) [] 5 23 20,evX (fun J Z=>X_mul (((h1.length:Int)+((wa++ma).length:Int))-(g1.length:Int)-(g2.length:Int)) (Z 23) (Z 21)) [] 5 23 24,evX (fun J Z=>X_mod3 kx kt (Z 28)) [] 1 24 29,evX (fun J Z=>X_get3 kx (Z 29) (Z 25) (Z 26) (Z 27)) [23] 1 24 30,evX (fun J Z=>X_join2 (sepS kx) (Z 30) g1 (Z 9) g2 (Z 11) 0) [22] 2 24 31,evX (fun J Z=>X_qd (g1++sepS kx++g2) (Z 31)) [] 0 24 32,evX (fun J Z=>X_add (sp (((h1.length:Int)+((wa++ma).length:Int))-(g1.length:Int)-(g2.length:Int)).toNat) (Z 24) (qd (g1++sepS kx++g2)) (Z 32)) [] 1 24 33,evX (fun J Z=>X_push c.1.hf c.1.tf (.int c.2.1 c.2.2.1) (.ref (J 5)) pe2 c.1.e1 [] (sp (((h1.length:Int)+((wa++ma).length:Int))-(g1.length:Int)-(g2.length:Int)).toNat++qd (g1++sepS kx++g2)) (Z 33) pb2) [3,4,11] 0 24 34]
theorem run_bFP (ia:Nat)(c:Lx)(hh:Nat→Int)(kk:Nat→Nat)(ct:Nat)(fs:Str)(ft kx kt:Nat)(o1 o2 o3 o4:Value)(pb:List Value)(pe es:Nat)(h1:Str)(pb1:List Value)(pe1:Nat)(h2:Str)(pb2:List Value)(pe2:Nat)(vs:List Value)(wa:Str)(wat:Nat)(ma:Str)(mat:Nat)(g1 g2:Str)(Pw:Params):∀ (b1 b2:Bool) (J Z:Nu),RE (X_bFP ia c hh kk ct fs ft kx kt o1 o2 o3 o4 pb pe es h1 pb1 pe1 h2 pb2 pe2 vs wa wat ma mat g1 g2) (fun J=>stD llFor.2 (llE (J 0))) Pw b1 b2 332 (bFP_hs b1 b2) (bFP_cs Pw ia c hh kk ct fs ft kx kt o1 o2 o3 o4 pb pe es h1 pb1 pe1 h2 pb2 pe2 vs wa wat ma mat g1 g2 b1 b2) [22] [5,0,9,11,33,4,21] J Z
  | true,b2,J,Z=>by kernel_rfl
  | false,b2,J,Z=>by kernel_rfl
theorem va_bFP (w:World){ia:Nat}{c:Lx}{hh:Nat→Int}{kk:Nat→Nat}{ct:Nat}{fs:Str}{ft kx kt:Nat}{o1 o2 o3 o4:Value}{pb:List Value}{pe es:Nat}{h1:Str}{pb1:List Value}{pe1:Nat}{h2:Str}{pb2:List Value}{pe2:Nat}{vs:List Value}{wa:Str}{wat:Nat}{ma:Str}{mat:Nat}{g1 g2:Str}(H1:(X_uF c fs ft pb pe es h1 pb1 pe1 vs wa wat ma mat).Ok w)(H2:∀ t,(X_uP c ⟨#[]⟩ t pb1 pe1 (es+1+1) h2 pb2 pe2 vs wa wat ma mat).Ok w)(L1:∀ t u,(X_lstrip h1 t u g1).Ok w)(L2:∀ t u,(X_lstrip (wa++ma) t u g2).Ok w)(N1:h1.length≤sizeLine)(N2:(wa++ma).length≤sizeLine)(N3:g1.length≤sizeLine)(N4:g2.length≤sizeLine)(M1:∀ t u,(X_mul (((h1.length:Int)+((wa++ma).length:Int))-(g1.length:Int)-(g2.length:Int)) t u).Ok w)(J1:g1.length+(sepS kx).length+(g2.length+(sepS kx).length)≤sizeLine)(D1:(g1++sepS kx++g2).length≤2 ^ 17)(A1:∀ t u,(X_add (sp (((h1.length:Int)+((wa++ma).length:Int))-(g1.length:Int)-(g2.length:Int)).toNat) t (qd (g1++sepS kx++g2)) u).Ok w)(Q1:∀ t u,(X_mod3 kx t u).Ok w)(P1:pb2.length≤sizeLine)(b1 b2:Bool):ValidAll prg w (gl w.params) (bFP_cs w.params ia c hh kk ct fs ft kx kt o1 o2 o3 o4 pb pe es h1 pb1 pe1 h2 pb2 pe2 vs wa wat ma mat g1 g2 b1 b2):=vc (fun J Z=>H1) rfl (vc (fun J Z=>H2 _) rfl (vc (fun J Z=>L1 _ _) rfl (vc (fun J Z=>L2 _ _) rfl (vc (fun J Z=>ok_lenS N1) rfl (vc (fun J Z=>ok_lenS N2) rfl (vc (fun J Z=>ok_lenS N3) rfl (vc (fun J Z=>ok_lenS N4) rfl (vc (fun J Z=>M1 _ _) rfl (vc (fun J Z=>Q1 _ _) rfl (vc (fun J Z=>ok_get3) rfl (vc (fun J Z=>ok_join2 J1) rfl (vc (fun J Z=>ok_qd w D1) rfl (vc (fun J Z=>A1 _ _) rfl (vc (fun J Z=>ok_push w P1) rfl (va_nil)))))))))))))))
noncomputable def X_bFF (ia:Nat)(c:Lx)(hh:Nat→Int)(kk:Nat→Nat)(ct:Nat)(fs:Str)(ft kx kt:Nat)(o1 o2 o3 o4:Value)(pb:List Value)(pe es:Nat)(h1:Str)(pb1:List Value)(pe1:Nat)(h2:Str)(pb2:List Value)(pe2:Nat)(vs:List Value)(wa:Str)(wat:Nat)(ma:Str)(mat:Nat)(g1 g2:Str):Spec:={ n0:=13,k:=2,nt:=7,d:=390,code:=fun J=>.forLoop llFor.1 (.ref ia) llFor.2 [] (llE (J 0)),pre:=fun J=>([frL hh kk (J 1) (J 3) ct fs ft [.int (kx:Nat) kt,o1,o2,o3,o4] 9,accO (J 2) (vs++[.ref (J 12)]) es,accD c.2.2.2.2.1 c.2.2.2.2.2.1 c.2.2.2.2.2.2]++strm c.1 J 3 (.int c.2.1 c.2.2.1) (J 11) [] c.2.2.2.1++[lst pb pe]++[tupO [.str wa wat,.str ma mat]]),res:=fun J Z=>.ok .next,post:=fun J Z=>([frL hh kk (J 1) (J 3) ct ⟨#[]⟩ (Z 0) [.int (kx:Nat) kt,.str h1 (Z 1),.str h2 (Z 5),.ref (J 13),.int (((h1.length:Int)+(h2.length:Int))-(g1.length:Int)-(g2.length:Int)) (Z 6)] 9,accO (J 2) (vs++[.ref (J 14)]) ((es+1+1)+1+1),accD c.2.2.2.2.1 c.2.2.2.2.2.1 c.2.2.2.2.2.2]++strm c.1 J 3 (.int c.2.1 c.2.2.1) (J 11) [] c.2.2.2.1++[lst (pb2++[.str (sp (((h1.length:Int)+(h2.length:Int))-(g1.length:Int)-(g2.length:Int)).toNat++qd (g1++sepS kx++g2)) (Z 4)]) (pe2+1)]++[tupO [.str wa wat,.str ma mat]]),new:=fun J Z=>[lst [.str g1 (Z 2),.str g2 (Z 3)] 0,tupO [.str wa wat,.str ma mat]] }
noncomputable def bFF_hs (b1 b2:Bool):List Nat:=[0,1,1,1,0,14,14,14,14,16,16,16,16,16,14,16,16,16,16,16,16,14,16,16,16,16,16,16,14,16,16,18,1,1,1,1,0,1,1,1,0,19,19,19,19,21,21,21,21,21,19,21,21,21,21,21,21,19,21,21,21,21,21,21,19,21,21,23,1,1,1,1,1,1,1,1,0,0,1,0,0,1,0,0,1,24,24,24,24,24,0,0,1,24,24,24,24,24,1,1,1,4,0,0,0,4,0,0,0,4,0,0,0,0,4,5,1,0,1,25,25,25,25,1,0,0]
noncomputable def bFF_cs (Pw:Params)(ia:Nat)(c:Lx)(hh:Nat→Int)(kk:Nat→Nat)(ct:Nat)(fs:Str)(ft kx kt:Nat)(o1 o2 o3 o4:Value)(pb:List Value)(pe es:Nat)(h1:Str)(pb1:List Value)(pe1:Nat)(h2:Str)(pb2:List Value)(pe2:Nat)(vs:List Value)(wa:Str)(wat:Nat)(ma:Str)(mat:Nat)(g1 g2:Str)(b1 b2:Bool):List Ev:=[evX (fun J Z=>X_uF c fs ft pb pe es h1 pb1 pe1 vs wa wat ma mat) [1,2,3,4,5,6,7,8,9,10,11,12] 0 13 0,evX (fun J Z=>X_uF c ⟨#[]⟩ (Z 1) pb1 pe1 (es+1+1) h2 pb2 pe2 vs wa wat ma mat) [1,2,3,4,5,6,7,8,9,10,11,14] 8 18 4,evX (fun J Z=>X_lstrip h1 (Z 0) (Z 8) g1) [] 9 23 9,evX (fun J Z=>X_lstrip h2 (Z 4) (Z 10) g2) [] 1 23 11,evX (fun J Z=>X_lenS h1 (Z 0)) [] 1 24 13,evX (fun J Z=>X_lenS h2 (Z 4)) [] 1 24 14,evX (fun J Z=>X_lenS g1 (Z 9)) [] 5 24 17,evX (fun J Z=>X_lenS g2 (Z 11)) [] 5 24 20,evX (fun J Z=>X_mul (((h1.length:Int)+(h2.length:Int))-(g1.length:Int)-(g2.length:Int)) (Z 23) (Z 21)) [] 5 24 24,evX (fun J Z=>X_mod3 kx kt (Z 28)) [] 1 25 29,evX (fun J Z=>X_get3 kx (Z 29) (Z 25) (Z 26) (Z 27)) [24] 1 25 30,evX (fun J Z=>X_join2 (sepS kx) (Z 30) g1 (Z 9) g2 (Z 11) 0) [23] 2 25 31,evX (fun J Z=>X_qd (g1++sepS kx++g2) (Z 31)) [] 0 25 32,evX (fun J Z=>X_add (sp (((h1.length:Int)+(h2.length:Int))-(g1.length:Int)-(g2.length:Int)).toNat) (Z 24) (qd (g1++sepS kx++g2)) (Z 32)) [] 1 25 33,evX (fun J Z=>X_push c.1.hf c.1.tf (.int c.2.1 c.2.2.1) (.ref (J 5)) pe2 c.1.e1 [] (sp (((h1.length:Int)+(h2.length:Int))-(g1.length:Int)-(g2.length:Int)).toNat++qd (g1++sepS kx++g2)) (Z 33) pb2) [3,4,11] 0 25 34]
theorem run_bFF (ia:Nat)(c:Lx)(hh:Nat→Int)(kk:Nat→Nat)(ct:Nat)(fs:Str)(ft kx kt:Nat)(o1 o2 o3 o4:Value)(pb:List Value)(pe es:Nat)(h1:Str)(pb1:List Value)(pe1:Nat)(h2:Str)(pb2:List Value)(pe2:Nat)(vs:List Value)(wa:Str)(wat:Nat)(ma:Str)(mat:Nat)(g1 g2:Str)(Pw:Params):∀ (b1 b2:Bool) (J Z:Nu),RE (X_bFF ia c hh kk ct fs ft kx kt o1 o2 o3 o4 pb pe es h1 pb1 pe1 h2 pb2 pe2 vs wa wat ma mat g1 g2) (fun J=>stD llFor.2 (llE (J 0))) Pw b1 b2 332 (bFF_hs b1 b2) (bFF_cs Pw ia c hh kk ct fs ft kx kt o1 o2 o3 o4 pb pe es h1 pb1 pe1 h2 pb2 pe2 vs wa wat ma mat g1 g2 b1 b2) [23,19] [5,0,9,11,33,4,21] J Z
  | true,b2,J,Z=>by kernel_rfl
  | false,b2,J,Z=>by kernel_rfl
theorem va_bFF (w:World){ia:Nat}{c:Lx}{hh:Nat→Int}{kk:Nat→Nat}{ct:Nat}{fs:Str}{ft kx kt:Nat}{o1 o2 o3 o4:Value}{pb:List Value}{pe es:Nat}{h1:Str}{pb1:List Value}{pe1:Nat}{h2:Str}{pb2:List Value}{pe2:Nat}{vs:List Value}{wa:Str}{wat:Nat}{ma:Str}{mat:Nat}{g1 g2:Str}(H1:(X_uF c fs ft pb pe es h1 pb1 pe1 vs wa wat ma mat).Ok w)(H2:∀ t,(X_uF c ⟨#[]⟩ t pb1 pe1 (es+1+1) h2 pb2 pe2 vs wa wat ma mat).Ok w)(L1:∀ t u,(X_lstrip h1 t u g1).Ok w)(L2:∀ t u,(X_lstrip h2 t u g2).Ok w)(N1:h1.length≤sizeLine)(N2:h2.length≤sizeLine)(N3:g1.length≤sizeLine)(N4:g2.length≤sizeLine)(M1:∀ t u,(X_mul (((h1.length:Int)+(h2.length:Int))-(g1.length:Int)-(g2.length:Int)) t u).Ok w)(J1:g1.length+(sepS kx).length+(g2.length+(sepS kx).length)≤sizeLine)(D1:(g1++sepS kx++g2).length≤2 ^ 17)(A1:∀ t u,(X_add (sp (((h1.length:Int)+(h2.length:Int))-(g1.length:Int)-(g2.length:Int)).toNat) t (qd (g1++sepS kx++g2)) u).Ok w)(Q1:∀ t u,(X_mod3 kx t u).Ok w)(P1:pb2.length≤sizeLine)(b1 b2:Bool):ValidAll prg w (gl w.params) (bFF_cs w.params ia c hh kk ct fs ft kx kt o1 o2 o3 o4 pb pe es h1 pb1 pe1 h2 pb2 pe2 vs wa wat ma mat g1 g2 b1 b2):=vc (fun J Z=>H1) rfl (vc (fun J Z=>H2 _) rfl (vc (fun J Z=>L1 _ _) rfl (vc (fun J Z=>L2 _ _) rfl (vc (fun J Z=>ok_lenS N1) rfl (vc (fun J Z=>ok_lenS N2) rfl (vc (fun J Z=>ok_lenS N3) rfl (vc (fun J Z=>ok_lenS N4) rfl (vc (fun J Z=>M1 _ _) rfl (vc (fun J Z=>Q1 _ _) rfl (vc (fun J Z=>ok_get3) rfl (vc (fun J Z=>ok_join2 J1) rfl (vc (fun J Z=>ok_qd w D1) rfl (vc (fun J Z=>A1 _ _) rfl (vc (fun J Z=>ok_push w P1) rfl (va_nil)))))))))))))))
noncomputable def X_bEE (ia:Nat)(c:Lx)(hh:Nat→Int)(kk:Nat→Nat)(ct:Nat)(fs:Str)(ft kx kt:Nat)(o1 o2 o3 o4:Value)(pb:List Value)(pe es:Nat)(h1:Str)(pb1:List Value)(pe1:Nat)(h2:Str)(pb2:List Value)(pe2:Nat)(g1 g2:Str):Spec:={ n0:=12,k:=1,nt:=7,d:=390,code:=fun J=>.forLoop llFor.1 (.ref ia) llFor.2 [] (llE (J 0)),pre:=fun J=>([frL hh kk (J 1) (J 3) ct fs ft [.int (kx:Nat) kt,o1,o2,o3,o4] 9,accO (J 2) [] es,accD c.2.2.2.2.1 c.2.2.2.2.2.1 c.2.2.2.2.2.2]++strm c.1 J 3 (.int c.2.1 c.2.2.1) (J 11) [] c.2.2.2.1++[lst pb pe]),res:=fun J Z=>.ok .next,post:=fun J Z=>([frL hh kk (J 1) (J 3) ct ⟨#[]⟩ (Z 0) [.int (kx:Nat) kt,.str h1 (Z 1),.str h2 (Z 5),.ref (J 12),.int (((h1.length:Int)+(h2.length:Int))-(g1.length:Int)-(g2.length:Int)) (Z 6)] 9,accO (J 2) [] es,accD c.2.2.2.2.1 c.2.2.2.2.2.1 c.2.2.2.2.2.2]++strm c.1 J 3 (.int c.2.1 c.2.2.1) (J 11) [] c.2.2.2.1++[lst (pb2++[.str (sp (((h1.length:Int)+(h2.length:Int))-(g1.length:Int)-(g2.length:Int)).toNat++qd (g1++sepS kx++g2)) (Z 4)]) (pe2+1)]),new:=fun J Z=>[lst [.str g1 (Z 2),.str g2 (Z 3)] 0] }
noncomputable def bEE_hs (b1 b2:Bool):List Nat:=[0,1,1,1,0,13,13,13,13,14,14,14,14,14,13,14,14,14,14,14,14,13,14,14,14,14,14,14,13,14,14,16,1,1,1,1,0,1,1,1,0,17,17,17,17,18,18,18,18,18,17,18,18,18,18,18,18,17,18,18,18,18,18,18,17,18,18,20,1,1,1,1,1,1,1,1,0,0,1,0,0,1,0,0,1,21,21,21,21,21,0,0,1,21,21,21,21,21,1,1,1,4,0,0,0,4,0,0,0,4,0,0,0,0,4,5,1,0,1,22,22,22,22,1,0,0]
noncomputable def bEE_cs (Pw:Params)(ia:Nat)(c:Lx)(hh:Nat→Int)(kk:Nat→Nat)(ct:Nat)(fs:Str)(ft kx kt:Nat)(o1 o2 o3 o4:Value)(pb:List Value)(pe es:Nat)(h1:Str)(pb1:List Value)(pe1:Nat)(h2:Str)(pb2:List Value)(pe2:Nat)(g1 g2:Str)(b1 b2:Bool):List Ev:=[evX (fun J Z=>X_uE c fs ft pb pe es h1 pb1 pe1) [1,2,3,4,5,6,7,8,9,10,11] 0 12 0,evX (fun J Z=>X_uE c ⟨#[]⟩ (Z 1) pb1 pe1 es h2 pb2 pe2) [1,2,3,4,5,6,7,8,9,10,11] 8 16 4,evX (fun J Z=>X_lstrip h1 (Z 0) (Z 8) g1) [] 9 20 9,evX (fun J Z=>X_lstrip h2 (Z 4) (Z 10) g2) [] 1 20 11,evX (fun J Z=>X_lenS h1 (Z 0)) [] 1 21 13,evX (fun J Z=>X_lenS h2 (Z 4)) [] 1 21 14,evX (fun J Z=>X_lenS g1 (Z 9)) [] 5 21 17,evX (fun J Z=>X_lenS g2 (Z 11)) [] 5 21 20,evX (fun J Z=>X_mul (((h1.length:Int)+(h2.length:Int))-(g1.length:Int)-(g2.length:Int)) (Z 23) (Z 21)) [] 5 21 24,evX (fun J Z=>X_mod3 kx kt (Z 28)) [] 1 22 29,evX (fun J Z=>X_get3 kx (Z 29) (Z 25) (Z 26) (Z 27)) [21] 1 22 30,evX (fun J Z=>X_join2 (sepS kx) (Z 30) g1 (Z 9) g2 (Z 11) 0) [20] 2 22 31,evX (fun J Z=>X_qd (g1++sepS kx++g2) (Z 31)) [] 0 22 32,evX (fun J Z=>X_add (sp (((h1.length:Int)+(h2.length:Int))-(g1.length:Int)-(g2.length:Int)).toNat) (Z 24) (qd (g1++sepS kx++g2)) (Z 32)) [] 1 22 33,evX (fun J Z=>X_push c.1.hf c.1.tf (.int c.2.1 c.2.2.1) (.ref (J 5)) pe2 c.1.e1 [] (sp (((h1.length:Int)+(h2.length:Int))-(g1.length:Int)-(g2.length:Int)).toNat++qd (g1++sepS kx++g2)) (Z 33) pb2) [3,4,11] 0 22 34]
theorem run_bEE (ia:Nat)(c:Lx)(hh:Nat→Int)(kk:Nat→Nat)(ct:Nat)(fs:Str)(ft kx kt:Nat)(o1 o2 o3 o4:Value)(pb:List Value)(pe es:Nat)(h1:Str)(pb1:List Value)(pe1:Nat)(h2:Str)(pb2:List Value)(pe2:Nat)(g1 g2:Str)(Pw:Params):∀ (b1 b2:Bool) (J Z:Nu),RE (X_bEE ia c hh kk ct fs ft kx kt o1 o2 o3 o4 pb pe es h1 pb1 pe1 h2 pb2 pe2 g1 g2) (fun J=>stD llFor.2 (llE (J 0))) Pw b1 b2 332 (bEE_hs b1 b2) (bEE_cs Pw ia c hh kk ct fs ft kx kt o1 o2 o3 o4 pb pe es h1 pb1 pe1 h2 pb2 pe2 g1 g2 b1 b2) [20] [5,0,9,11,33,4,21] J Z
  | true,b2,J,Z=>by kernel_rfl
  | false,b2,J,Z=>by kernel_rfl
theorem va_bEE (w:World){ia:Nat}{c:Lx}{hh:Nat→Int}{kk:Nat→Nat}{ct:Nat}{fs:Str}{ft kx kt:Nat}{o1 o2 o3 o4:Value}{pb:List Value}{pe es:Nat}{h1:Str}{pb1:List Value}{pe1:Nat}{h2:Str}{pb2:List Value}{pe2:Nat}{g1 g2:Str}(H1:(X_uE c fs ft pb pe es h1 pb1 pe1).Ok w)(H2:∀ t,(X_uE c ⟨#[]⟩ t pb1 pe1 es h2 pb2 pe2).Ok w)(L1:∀ t u,(X_lstrip h1 t u g1).Ok w)(L2:∀ t u,(X_lstrip h2 t u g2).Ok w)(N1:h1.length≤sizeLine)(N2:h2.length≤sizeLine)(N3:g1.length≤sizeLine)(N4:g2.length≤sizeLine)(M1:∀ t u,(X_mul (((h1.length:Int)+(h2.length:Int))-(g1.length:Int)-(g2.length:Int)) t u).Ok w)(J1:g1.length+(sepS kx).length+(g2.length+(sepS kx).length)≤sizeLine)(D1:(g1++sepS kx++g2).length≤2 ^ 17)(A1:∀ t u,(X_add (sp (((h1.length:Int)+(h2.length:Int))-(g1.length:Int)-(g2.length:Int)).toNat) t (qd (g1++sepS kx++g2)) u).Ok w)(Q1:∀ t u,(X_mod3 kx t u).Ok w)(P1:pb2.length≤sizeLine)(b1 b2:Bool):ValidAll prg w (gl w.params) (bEE_cs w.params ia c hh kk ct fs ft kx kt o1 o2 o3 o4 pb pe es h1 pb1 pe1 h2 pb2 pe2 g1 g2 b1 b2):=vc (fun J Z=>H1) rfl (vc (fun J Z=>H2 _) rfl (vc (fun J Z=>L1 _ _) rfl (vc (fun J Z=>L2 _ _) rfl (vc (fun J Z=>ok_lenS N1) rfl (vc (fun J Z=>ok_lenS N2) rfl (vc (fun J Z=>ok_lenS N3) rfl (vc (fun J Z=>ok_lenS N4) rfl (vc (fun J Z=>M1 _ _) rfl (vc (fun J Z=>Q1 _ _) rfl (vc (fun J Z=>ok_get3) rfl (vc (fun J Z=>ok_join2 J1) rfl (vc (fun J Z=>ok_qd w D1) rfl (vc (fun J Z=>A1 _ _) rfl (vc (fun J Z=>ok_push w P1) rfl (va_nil)))))))))))))))
end
section
open PySem PySem.W PySem.W.X PySem.Spec PySem.Calls
set_option maxHeartbeats 1000000
noncomputable def headM (target:Expr)(it:Value)(env:Env):Sem Flow:=Sem.bind (pyNext it) fun o=>match o with
  | none=>.pure .brk
  | some v=>Sem.bind (assign target env v) fun _=>.pure .next
noncomputable def headO (target:Expr)(it:Value)(env:Env):Sem Fin:=Sem.bind (headM target it env) fun f=>.pure (.done f)
noncomputable def headD (target:Expr)(it:Value)(env:Env):Sem Fin:=PySem.W.R.bindR (PySem.W.R.bindR (PySem.W.Fast.tw9404975358583537561 it) fun o=>match o with
  | none=>.pure .brk
  | some v=>PySem.W.R.bindR (PySem.W.Fast.tw17772580674575903948 target env v) fun _=>.pure .next) fun f=>.pure (.done f)
theorem head_eq:headO=headD:=by
  funext target it env
  unfold headO headD headM
  rw [PySem.W.R.bindR_eq,← PySem.W.Fast.te9404975358583537561,← PySem.W.Fast.te17772580674575903948]
theorem block_nil {w:World}{A:Around}{env:Env}{R:Result→Shared→Prop}{s:Shared}(h:R (.ok .next) s):codeAny (model prg w) A (.block [] env) R s:=by
  refine codeAny_of_tree ?_
  show wpAny _ _ (do let f ← (execs [] env).onRaise _;pure (Fin.done f)) _ _ s
  rw [execs_nil]
  exact wpAny_bind (wpAny_onRaise (wpAny_pure (wpAny_pure h)))
theorem wpAt_onRaise' {M:Model}{α:Type}{A:Around}{c:Code}{E:Value→Shared→Prop}{s:Shared}{m:Sem α}{k:Value→Sem Unit}{Q:α→Shared→Prop}(h:wpAt M A c m Q (fun _ _=>False) s):wpAt M A c (m.onRaise k) Q E s :=
  ks_wpAt_onRaise (ks_wpAt_mono h (fun _ _ x=>x) fun _ _ x=>x.elim)
theorem for_code {w:World}{A:Around}{x:Str}{px:Pos}{it:Value}{body:List Stmt}{env:Env}{R:Result→Shared→Prop}{s:Shared}
    (h:wpAt (model prg w) (A.under (.forLoop (.Name x px) it body [] env)) (.forLoop (.Name x px) it body [] env) (headM (.Name x px) it env) (fun f s1=>match f with
      | .brk=>codeAny (model prg w) A (.block [] env) R s1
      | .next=>wpAt (model prg w) (A.under (.forLoop (.Name x px) it body [] env)) (.forLoop (.Name x px) it body [] env) (execs body env) (fun f s2=>match f with
          | .next=>codeAny (model prg w) A (.forLoop (.Name x px) it body [] env) R s2
          | .cont=>codeAny (model prg w) A (.forLoop (.Name x px) it body [] env) R s2
          | .brk=>R (.ok .next) s2
          | .ret v=>R (.ok (.ret v)) s2) (fun _ _=>False) s1
      | _=>False) (fun _ _=>False) s):codeAny (model prg w) A (.forLoop (.Name x px) it body [] env) R s:=by
  refine codeAny_of_treeAt ?_
  show wpAt _ _ _ ((forTurn (.Name x px) it body [] env).onRaise _) _ _ s
  refine wpAt_onRaise' ?_
  unfold forTurn
  refine wpAt_bind (wpAt_of_wpAny (wpAny_standAt ?_))
  intro Γ p hc hΓ
  have h1:=h Γ p hc hΓ
  unfold headM at h1
  have h2:Sem.wp (model prg w) Γ (pyNext it >>= fun o=>match o with
    | none=>Sem.pure Flow.brk
    | some v=>Sem.bind (assign (.Name x px) env v) fun _=>.pure .next) _ _ p s:=h1
  rw [Sem.wp_bind'] at h2
  rw [Sem.wp_bind',Sem.wp_onRaise]
  refine Sem.wp_mono _ Γ _ (fun o p1 s1 h3=>?_) (fun _ _ _ z=>z.elim) p s h2
  cases o with
  | none=>exact ⟨rfl,h3⟩
  | some v =>
    have h4:Sem.wp (model prg w) Γ (assign (.Name x px) env v >>= fun _=>Sem.pure Flow.next) _ _ p1 s1:=h3
    rw [Sem.wp_bind'] at h4
    show Sem.wp _ Γ ((pure ():Sem Unit) >>= fun _=>(assign (.Name x px) env v >>= fun _=>execs body env >>= _)) _ _ p1 s1
    rw [Sem.wp_bind',Sem.wp_pure',Sem.wp_bind']
    refine Sem.wp_mono _ Γ _ (fun u p2 s2 h5=>?_) (fun _ _ _ z=>z.elim) p1 s1 h4
    have h6:=h5 Γ p2 hc hΓ
    rw [Sem.wp_bind']
    refine Sem.wp_mono _ Γ _ (fun f p3 s3 h7=>?_) (fun _ _ _ z=>z.elim) p2 s2 h6
    cases f with
    | next=>exact ⟨rfl,h7⟩
    | cont=>exact ⟨rfl,h7⟩
    | brk=>exact h7
    | ret v=>exact h7
end
section
open PySem PySem.W PySem.W.X PySem.Spec PySem.Calls
set_option maxHeartbeats 0
noncomputable def itR (k r:Nat):Obj:={ cls:=.type "range_iterator",data:=.fields #[.int (k:Nat) 0,.int (r:Nat) 0,.int 1 0] }
noncomputable def X_hd0 (Pw:Params)(hh:Nat→Int)(kk:Nat→Nat)(ct:Nat)(fs:Str)(ft pa la:Nat):Spec:={ n0:=2,k:=0,nt:=2,d:=390,code:=fun J=>.forLoop llFor.1 (.ref (J 1)) llFor.2 [] (llE (J 0)),pre:=fun J=>[frL hh kk pa la ct fs ft [] 4,itR 0 5],res:=fun J Z=>.ok .next,post:=fun J Z=>[frL (fun j=>match j with | 4=>hsh Pw sK | j=>hh j) (fun j=>match j with | 4=>Z 1 | j=>kk j) pa la ct fs ft [.int (0:Nat) (Z 0)] 5,itR 1 4],new:=fun J Z=>[] }
noncomputable def hd0_hs (b1 b2:Bool):List Nat:=[2,2,2,2,2,2,2,2,2,1,1]
noncomputable def hd0_cs (Pw:Params)(hh:Nat→Int)(kk:Nat→Nat)(ct:Nat)(fs:Str)(ft pa la:Nat)(b1 b2:Bool):List Ev:=[]
theorem run_hd0 (hh:Nat→Int)(kk:Nat→Nat)(ct:Nat)(fs:Str)(ft pa la:Nat)(Pw:Params):∀ (b1 b2:Bool) (J Z:Nu),RE (X_hd0 Pw hh kk ct fs ft pa la) (fun J=>headD llFor.1 (.ref (J 1)) (llE (J 0))) Pw b1 b2 26 (hd0_hs b1 b2) (hd0_cs Pw hh kk ct fs ft pa la b1 b2) [] [0,1] J Z
  | true,b2,J,Z=>by kernel_rfl
  | false,b2,J,Z=>by kernel_rfl
theorem va_hd0 (w:World){hh:Nat→Int}{kk:Nat→Nat}{ct:Nat}{fs:Str}{ft pa la:Nat}  (b1 b2:Bool):ValidAll prg w (gl w.params) (hd0_cs w.params hh kk ct fs ft pa la b1 b2):=va_nil
noncomputable def X_hd1 (hh:Nat→Int)(kk:Nat→Nat)(ct:Nat)(fs:Str)(ft pa la:Nat)(o0 o1 o2 o3 o4:Value):Spec:={ n0:=2,k:=0,nt:=1,d:=390,code:=fun J=>.forLoop llFor.1 (.ref (J 1)) llFor.2 [] (llE (J 0)),pre:=fun J=>[frL hh kk pa la ct fs ft [o0,o1,o2,o3,o4] 9,itR 1 4],res:=fun J Z=>.ok .next,post:=fun J Z=>[frL hh kk pa la ct fs ft [.int (1:Nat) (Z 0),o1,o2,o3,o4] 9,itR 2 3],new:=fun J Z=>[] }
noncomputable def hd1_hs (b1 b2:Bool):List Nat:=[2,2,2,2,2,2,2,2,2,1,1]
noncomputable def hd1_cs (Pw:Params)(hh:Nat→Int)(kk:Nat→Nat)(ct:Nat)(fs:Str)(ft pa la:Nat)(o0 o1 o2 o3 o4:Value)(b1 b2:Bool):List Ev:=[]
theorem run_hd1 (hh:Nat→Int)(kk:Nat→Nat)(ct:Nat)(fs:Str)(ft pa la:Nat)(o0 o1 o2 o3 o4:Value)(Pw:Params):∀ (b1 b2:Bool) (J Z:Nu),RE (X_hd1 hh kk ct fs ft pa la o0 o1 o2 o3 o4) (fun J=>headD llFor.1 (.ref (J 1)) (llE (J 0))) Pw b1 b2 26 (hd1_hs b1 b2) (hd1_cs Pw hh kk ct fs ft pa la o0 o1 o2 o3 o4 b1 b2) [] [0] J Z
  | true,b2,J,Z=>by kernel_rfl
  | false,b2,J,Z=>by kernel_rfl
theorem va_hd1 (w:World){hh:Nat→Int}{kk:Nat→Nat}{ct:Nat}{fs:Str}{ft pa la:Nat}{o0 o1 o2 o3 o4:Value}  (b1 b2:Bool):ValidAll prg w (gl w.params) (hd1_cs w.params hh kk ct fs ft pa la o0 o1 o2 o3 o4 b1 b2):=va_nil
noncomputable def X_hd2 (hh:Nat→Int)(kk:Nat→Nat)(ct:Nat)(fs:Str)(ft pa la:Nat)(o0 o1 o2 o3 o4:Value):Spec:={ n0:=2,k:=0,nt:=1,d:=390,code:=fun J=>.forLoop llFor.1 (.ref (J 1)) llFor.2 [] (llE (J 0)),pre:=fun J=>[frL hh kk pa la ct fs ft [o0,o1,o2,o3,o4] 9,itR 2 3],res:=fun J Z=>.ok .next,post:=fun J Z=>[frL hh kk pa la ct fs ft [.int (2:Nat) (Z 0),o1,o2,o3,o4] 9,itR 3 2],new:=fun J Z=>[] }
noncomputable def hd2_hs (b1 b2:Bool):List Nat:=[2,2,2,2,2,2,2,2,2,1,1]
noncomputable def hd2_cs (Pw:Params)(hh:Nat→Int)(kk:Nat→Nat)(ct:Nat)(fs:Str)(ft pa la:Nat)(o0 o1 o2 o3 o4:Value)(b1 b2:Bool):List Ev:=[]
theorem run_hd2 (hh:Nat→Int)(kk:Nat→Nat)(ct:Nat)(fs:Str)(ft pa la:Nat)(o0 o1 o2 o3 o4:Value)(Pw:Params):∀ (b1 b2:Bool) (J Z:Nu),RE (X_hd2 hh kk ct fs ft pa la o0 o1 o2 o3 o4) (fun J=>headD llFor.1 (.ref (J 1)) (llE (J 0))) Pw b1 b2 26 (hd2_hs b1 b2) (hd2_cs Pw hh kk ct fs ft pa la o0 o1 o2 o3 o4 b1 b2) [] [0] J Z
  | true,b2,J,Z=>by kernel_rfl
  | false,b2,J,Z=>by kernel_rfl
theorem va_hd2 (w:World){hh:Nat→Int}{kk:Nat→Nat}{ct:Nat}{fs:Str}{ft pa la:Nat}{o0 o1 o2 o3 o4:Value}  (b1 b2:Bool):ValidAll prg w (gl w.params) (hd2_cs w.params hh kk ct fs ft pa la o0 o1 o2 o3 o4 b1 b2):=va_nil
noncomputable def X_hd3 (hh:Nat→Int)(kk:Nat→Nat)(ct:Nat)(fs:Str)(ft pa la:Nat)(o0 o1 o2 o3 o4:Value):Spec:={ n0:=2,k:=0,nt:=1,d:=390,code:=fun J=>.forLoop llFor.1 (.ref (J 1)) llFor.2 [] (llE (J 0)),pre:=fun J=>[frL hh kk pa la ct fs ft [o0,o1,o2,o3,o4] 9,itR 3 2],res:=fun J Z=>.ok .next,post:=fun J Z=>[frL hh kk pa la ct fs ft [.int (3:Nat) (Z 0),o1,o2,o3,o4] 9,itR 4 1],new:=fun J Z=>[] }
noncomputable def hd3_hs (b1 b2:Bool):List Nat:=[2,2,2,2,2,2,2,2,2,1,1]
noncomputable def hd3_cs (Pw:Params)(hh:Nat→Int)(kk:Nat→Nat)(ct:Nat)(fs:Str)(ft pa la:Nat)(o0 o1 o2 o3 o4:Value)(b1 b2:Bool):List Ev:=[]
theorem run_hd3 (hh:Nat→Int)(kk:Nat→Nat)(ct:Nat)(fs:Str)(ft pa la:Nat)(o0 o1 o2 o3 o4:Value)(Pw:Params):∀ (b1 b2:Bool) (J Z:Nu),RE (X_hd3 hh kk ct fs ft pa la o0 o1 o2 o3 o4) (fun J=>headD llFor.1 (.ref (J 1)) (llE (J 0))) Pw b1 b2 26 (hd3_hs b1 b2) (hd3_cs Pw hh kk ct fs ft pa la o0 o1 o2 o3 o4 b1 b2) [] [0] J Z
  | true,b2,J,Z=>by kernel_rfl
  | false,b2,J,Z=>by kernel_rfl
theorem va_hd3 (w:World){hh:Nat→Int}{kk:Nat→Nat}{ct:Nat}{fs:Str}{ft pa la:Nat}{o0 o1 o2 o3 o4:Value}  (b1 b2:Bool):ValidAll prg w (gl w.params) (hd3_cs w.params hh kk ct fs ft pa la o0 o1 o2 o3 o4 b1 b2):=va_nil
noncomputable def X_hd4 (hh:Nat→Int)(kk:Nat→Nat)(ct:Nat)(fs:Str)(ft pa la:Nat)(o0 o1 o2 o3 o4:Value):Spec:={ n0:=2,k:=0,nt:=1,d:=390,code:=fun J=>.forLoop llFor.1 (.ref (J 1)) llFor.2 [] (llE (J 0)),pre:=fun J=>[frL hh kk pa la ct fs ft [o0,o1,o2,o3,o4] 9,itR 4 1],res:=fun J Z=>.ok .next,post:=fun J Z=>[frL hh kk pa la ct fs ft [.int (4:Nat) (Z 0),o1,o2,o3,o4] 9,itR 5 0],new:=fun J Z=>[] }
noncomputable def hd4_hs (b1 b2:Bool):List Nat:=[2,2,2,2,2,2,2,2,2,1,1]
noncomputable def hd4_cs (Pw:Params)(hh:Nat→Int)(kk:Nat→Nat)(ct:Nat)(fs:Str)(ft pa la:Nat)(o0 o1 o2 o3 o4:Value)(b1 b2:Bool):List Ev:=[]
theorem run_hd4 (hh:Nat→Int)(kk:Nat→Nat)(ct:Nat)(fs:Str)(ft pa la:Nat)(o0 o1 o2 o3 o4:Value)(Pw:Params):∀ (b1 b2:Bool) (J Z:Nu),RE (X_hd4 hh kk ct fs ft pa la o0 o1 o2 o3 o4) (fun J=>headD llFor.1 (.ref (J 1)) (llE (J 0))) Pw b1 b2 26 (hd4_hs b1 b2) (hd4_cs Pw hh kk ct fs ft pa la o0 o1 o2 o3 o4 b1 b2) [] [0] J Z
  | true,b2,J,Z=>by kernel_rfl
  | false,b2,J,Z=>by kernel_rfl
theorem va_hd4 (w:World){hh:Nat→Int}{kk:Nat→Nat}{ct:Nat}{fs:Str}{ft pa la:Nat}{o0 o1 o2 o3 o4:Value}  (b1 b2:Bool):ValidAll prg w (gl w.params) (hd4_cs w.params hh kk ct fs ft pa la o0 o1 o2 o3 o4 b1 b2):=va_nil
noncomputable def X_hd5 (hh:Nat→Int)(kk:Nat→Nat)(ct:Nat)(fs:Str)(ft pa la:Nat)(o0 o1 o2 o3 o4:Value):Spec:={ n0:=2,k:=0,nt:=0,d:=390,code:=fun J=>.forLoop llFor.1 (.ref (J 1)) llFor.2 [] (llE (J 0)),pre:=fun J=>[frL hh kk pa la ct fs ft [o0,o1,o2,o3,o4] 9,itR 5 0],res:=fun J Z=>.ok .brk,post:=fun J Z=>[frL hh kk pa la ct fs ft [o0,o1,o2,o3,o4] 9,itR 5 0],new:=fun J Z=>[] }
noncomputable def hd5_hs (b1 b2:Bool):List Nat:=[2,2,2,2,2,4]
noncomputable def hd5_cs (Pw:Params)(hh:Nat→Int)(kk:Nat→Nat)(ct:Nat)(fs:Str)(ft pa la:Nat)(o0 o1 o2 o3 o4:Value)(b1 b2:Bool):List Ev:=[]
theorem run_hd5 (hh:Nat→Int)(kk:Nat→Nat)(ct:Nat)(fs:Str)(ft pa la:Nat)(o0 o1 o2 o3 o4:Value)(Pw:Params):∀ (b1 b2:Bool) (J Z:Nu),RE (X_hd5 hh kk ct fs ft pa la o0 o1 o2 o3 o4) (fun J=>headD llFor.1 (.ref (J 1)) (llE (J 0))) Pw b1 b2 19 (hd5_hs b1 b2) (hd5_cs Pw hh kk ct fs ft pa la o0 o1 o2 o3 o4 b1 b2) [] [] J Z
  | true,b2,J,Z=>by kernel_rfl
  | false,b2,J,Z=>by kernel_rfl
theorem va_hd5 (w:World){hh:Nat→Int}{kk:Nat→Nat}{ct:Nat}{fs:Str}{ft pa la:Nat}{o0 o1 o2 o3 o4:Value}  (b1 b2:Bool):ValidAll prg w (gl w.params) (hd5_cs w.params hh kk ct fs ft pa la o0 o1 o2 o3 o4 b1 b2):=va_nil
end
section
open PySem PySem.W PySem.W.X PySem.Spec PySem.Calls
set_option maxHeartbeats 1000000
noncomputable abbrev Tx:=Nat×List Nat
noncomputable def lS (l:List Nat):Str:=⟨l.toArray⟩
theorem lS_list (l:List Nat):(lS l).cps.toList=l:=rfl
theorem lS_len (l:List Nat):(lS l).length=l.length:=by rw [len_eq];rfl
noncomputable def txS (x:Tx):Str:=sp x.1++lS x.2
noncomputable def lb:Nat→Nat
  | 0=>5
  | k+1=>8*lb k+8
structure OkT (k:Nat)(x:Tx):Prop where
  ne:x.2≠[]
  hd:x.2.head?≠some 32
  pos:1≤x.1
  w:x.1≤30*2 ^ k
  l:x.2.length≤lb k
theorem OkT.up {k:Nat}{x:Tx}(h:OkT k x):OkT (k+1) x:=⟨h.ne,h.hd,h.pos,by have:=h.w;rw [Nat.pow_succ];omega,by have:=h.l;rw [lb];omega⟩
noncomputable def take (p q:List Tx):Tx×List Tx×List Tx:=match p,q with
  | [],[]=>((0,[]),[],[])
  | [],y::q=>(y,[],q)
  | x::p,[]=>(x,p,[])
  | x::p,y::q=>if y.1<x.1 then (y,x::p,q) else (x,p,y::q)
noncomputable def jn (k:Nat)(x y:Tx):Str:=lS x.2++sepS k++lS y.2
noncomputable def glue (k:Nat)(x y:Tx):Tx:=(x.1+y.1,(qd (jn k x y)).cps.toList)
def Front (fs:Str)(ps:List (Str×Tok))(q:List Tx):Prop:=(fs=⟨#[]⟩∧ps.map (·.1)=q.map txS)∨(∃ y q',q=y::q'∧fs=txS y∧ps.map (·.1)=q'.map txS)
theorem tx_list (x:Tx):(txS x).cps.toList=List.replicate x.1 32++x.2:=by unfold txS;rw [cps_append,sp_list,lS_list]
theorem tx_len (x:Tx):(txS x).length=x.1+x.2.length:=by rw [len_eq,tx_list,List.length_append,List.length_replicate]
theorem tx_ne {k:Nat}{x:Tx}(h:OkT k x):(txS x).cps.toList≠[]:=by
  rw [tx_list]
  intro z
  exact h.ne (List.append_eq_nil_iff.mp z).2
theorem lb_le {k:Nat}(h:k≤4):lb k≤25160:=by
  match k,h with
  | 0,_=>decide
  | 1,_=>decide
  | 2,_=>decide
  | 3,_=>decide
  | 4,_=>decide
theorem p2_le {k:Nat}(h:k≤4):30*2 ^ k≤480:=by
  match k,h with
  | 0,_=>decide
  | 1,_=>decide
  | 2,_=>decide
  | 3,_=>decide
  | 4,_=>decide
theorem strip_tx {w:World}{k:Nat}{x:Tx}{t u:Nat}(h:OkT k x)(hk:k≤4):(X_lstrip (txS x) t u (lS x.2)).Ok w:=by
  have:=sizeLine_eq
  have h1:=lb_le hk
  have h2:=p2_le hk
  have h3:=h.w
  have h4:=h.l
  exact ok_lstrip (by rw [tx_list];exact drop_sp h.hd) (by rw [tx_len];omega)
theorem qd_head {c:Nat}{l:List Nat}(h:c≠32):(quoteQ true (normN false (c::l))).head?≠some 32∧quoteQ true (normN false (c::l))≠[]:=by
  have hq:∀ (d:Nat) (r:List Nat),d≠32→(quoteQ true (d::r)).head?≠some 32∧quoteQ true (d::r)≠[]:=by
    intro d r hd
    rw [quoteQ]
    by_cases h46:(true&&d==46)=true
    · rw [if_pos h46]
      exact ⟨by simp,by simp⟩
    · rw [if_neg h46]
      exact ⟨by simpa using hd,by simp⟩
  rw [normN]
  split
  · exact hq 13 _ (by decide)
  · split
    · exact hq 13 _ (by decide)
    · exact hq c _ h
theorem sep_len (k:Nat):(sepS k).length≤2:=by
  unfold sepS
  split
  · exact Nat.le_succ _
  · split
    · exact Nat.le_succ _
    · exact Nat.le_refl _
theorem jn_len (k:Nat)(x y:Tx):(jn k x y).length≤x.2.length+y.2.length+2:=by
  unfold jn
  rw [len_append,len_append,lS_len,lS_len]
  have:=sep_len k
  omega
theorem qd_len (s:Str):(qd s).length≤4*s.length:=by
  have h1:=quote_len true (normN false s.cps.toList)
  have h2:=norm_len false s.cps.toList
  rw [len_eq,len_eq]
  show (quoteQ true (normN false s.cps.toList)).length≤_
  omega
theorem glue_ok {k:Nat}{x y:Tx}(hx:OkT k x)(hy:OkT k y)(j:Nat):OkT (k+1) (glue j x y):=by
  obtain ⟨c,l,hc⟩:∃ c l,x.2=c::l:=by
    cases q:x.2 with
    | nil=>exact absurd q hx.ne
    | cons c l=>exact ⟨c,l,rfl⟩
  have hc2:c≠32:=fun z=>hx.hd (by rw [hc,z];rfl)
  have e:(glue j x y).2=quoteQ true (normN false (c::(l++(sepS j).cps.toList++y.2))):=by
    show quoteQ true (normN false (jn j x y).cps.toList)=_
    unfold jn
    rw [cps_append,cps_append,lS_list,lS_list,hc]
    rfl
  have h1:=qd_head (l:=l++(sepS j).cps.toList++y.2) hc2
  refine ⟨by rw [e];exact h1.2,by rw [e];exact h1.1,?_,?_,?_⟩
  · have:=hx.pos;show 1≤x.1+y.1;omega
  · have:=hx.w;have:=hy.w;show x.1+y.1≤_;rw [Nat.pow_succ];omega
  · have h2:=qd_len (jn j x y)
    have h3:=jn_len j x y
    have h4:=hx.l
    have h5:=hy.l
    rw [len_eq] at h2
    show (qd (jn j x y)).cps.toList.length≤_
    rw [lb]
    omega
theorem glue_tx (k:Nat)(x y:Tx):txS (glue k x y)=sp (x.1+y.1)++qd (jn k x y):=rfl
theorem num_eq {x y:Tx}:((((txS x).length:Int)+((txS y).length:Int))-((lS x.2).length:Int)-((lS y.2).length:Int))=((x.1+y.1:Nat):Int):=by
  rw [tx_len,tx_len,lS_len,lS_len];omega
theorem ok_mod3 {w:World}{k t u:Nat}:(X_mod3 k t u).Ok w:=by
  have g:=AutoIntG6.int___mod___int_int_1 (k:Int) t 3 u (by decide)
  rw [show Int.fmod (k:Int) 3=((k%3:Nat):Int) from by rw [Int.fmod_eq_emod_of_nonneg _ (by decide)];rfl] at g
  exact ok_tok (con_int (by decide +kernel) (entryFor_of_tree (by kernel_rfl)) g)
structure Rest (w:World)(k:Nat)(x y:Tx):Prop where
  l1:∀ t u,(X_lstrip (txS x) t u (lS x.2)).Ok w
  l2:∀ t u,(X_lstrip (txS y) t u (lS y.2)).Ok w
  n1:(txS x).length≤sizeLine
  n2:(txS y).length≤sizeLine
  n3:(lS x.2).length≤sizeLine
  n4:(lS y.2).length≤sizeLine
  m1:∀ t u,(X_mul ((((txS x).length:Int)+((txS y).length:Int))-((lS x.2).length:Int)-((lS y.2).length:Int)) t u).Ok w
  j1:(lS x.2).length+(sepS k).length+((lS y.2).length+(sepS k).length)≤sizeLine
  d1:(lS x.2++sepS k++lS y.2).length≤2 ^ 17
  a1:∀ t u,(X_add (sp ((((txS x).length:Int)+((txS y).length:Int))-((lS x.2).length:Int)-((lS y.2).length:Int)).toNat) t (qd (lS x.2++sepS k++lS y.2)) u).Ok w
  q1:∀ t u,(X_mod3 k t u).Ok w
theorem rest_ok {w:World}{k j:Nat}{x y:Tx}(hx:OkT k x)(hy:OkT k y)(hk:k≤4):Rest w j x y:=by
  have hs:=sizeLine_eq
  have h1:=lb_le hk
  have h2:=p2_le hk
  have hx1:=hx.w;have hx2:=hx.l;have hy1:=hy.w;have hy2:=hy.l;have hx3:=hx.pos
  have hj:=sep_len j
  refine ⟨fun t u=>strip_tx hx hk,fun t u=>strip_tx hy hk,by rw [tx_len];omega,by rw [tx_len];omega,by rw [lS_len];omega,by rw [lS_len];omega,fun t u=>?_,by rw [lS_len,lS_len];omega,?_,fun t u=>?_,fun t u=>ok_mod3⟩
  · rw [num_eq]
    exact ok_mul (by omega) (by omega)
  · have:=jn_len j x y
    show (jn j x y).length≤_
    omega
  · rw [num_eq]
    have h3:=qd_len (jn j x y)
    have h4:=jn_len j x y
    have hg:=glue_ok hx hy j
    refine ok_add (by rw [sp_len];omega) (fun z=>hg.ne ?_) ?_
    · have:(qd (jn j x y)).cps.toList.length=0:=by rw [← len_eq];exact z
      exact List.length_eq_zero_iff.mp this
    · rw [len_append,sp_len]
      show _+(qd (jn j x y)).length≤_
      omega
theorem item_ok {k:Nat}{x:Tx}{vs:List Value}(h:OkT k x)(hk:k≤4)(hv:vs.length<sizeLine):ItemOk vs (sp x.1) (lS x.2):=by
  have hs:=sizeLine_eq
  have h1:=lb_le hk
  have h2:=p2_le hk
  have h3:=h.w;have h4:=h.l;have h5:=h.pos
  refine ⟨hv,by rw [sp_len];omega,fun z=>h.ne ?_,by rw [len_append,sp_len,lS_len];omega⟩
  rw [lS_len] at z
  exact List.length_eq_zero_iff.mp z
theorem take_of {k:Nat}{fs:Str}{ps:List (Str×Tok)}{y:Tx}{q:List Tx}(F:Front fs ps (y::q))(hy:OkT k y)(hl:ps.length<sizeLine)(pe:Nat) :
    ∃ ps' pe',(∀ ft,∃ t,Take fs ft (strValues ps) pe (txS y) t (strValues ps') pe')∧ps'.map (·.1)=q.map txS:=by
  rcases F with ⟨h1,h2⟩ | ⟨y',q',h1,h2,h3⟩
  · cases ps with
    | nil=>cases h2
    | cons a ps =>
      rw [List.map_cons,List.map_cons] at h2
      injection h2 with h3 h4
      refine ⟨ps,pe+1,fun ft=>⟨a.2,?_⟩,h4⟩
      rw [← h3]
      exact Take.taken _ _ _ h1 rfl (by rw [h3];exact tx_ne hy) (by
        show (ps.map _).length<_
        rw [List.length_map]
        have:(a::ps).length=ps.length+1:=rfl
        omega)
  · cases h1
    refine ⟨ps,pe,fun ft=>⟨ft,?_⟩,h3⟩
    rw [h2]
    exact Take.given (tx_ne hy)
theorem len_ps {fs:Str}{ps:List (Str×Tok)}{q:List Tx}(F:Front fs ps q):ps.length≤q.length:=by
  rcases F with ⟨_,h⟩ | ⟨y,q',rfl,_,h⟩
  · have:=congrArg List.length h
    rw [List.length_map,List.length_map] at this;omega
  · have:=congrArg List.length h
    rw [List.length_map,List.length_map] at this
    rw [List.length_cons];omega
theorem lt_E {w:World}{c:Lx}{k:Nat}{fs:Str}{ps:List (Str×Tok)}{y:Tx}{q:List Tx}(F:Front fs ps (y::q))(hy:OkT k y)(hq:q.length<100)(pe:Nat) :
    ∃ ps' pe',(∀ ft e,(X_uE c fs ft (strValues ps) pe e (txS y) (strValues ps') pe').Ok w)∧Front ⟨#[]⟩ ps' q:=by
  have hs:=sizeLine_eq
  have:=len_ps F
  rw [List.length_cons] at this
  obtain ⟨ps',pe',T,h⟩:=take_of F hy (by omega) pe
  exact ⟨ps',pe',fun ft e=>(T ft).elim fun t T=>ok_uE T,.inl ⟨rfl,h⟩⟩
theorem drop_tx {k:Nat}{y:Tx}(hy:OkT k y):(txS y).cps.toList.dropWhile (fun c=>(#[32]:Array Nat).contains c)=(lS y.2).cps.toList:=by rw [tx_list];exact drop_sp hy.hd
theorem cmp_tx {x y:Tx}{b:Bool}(h:decide (y.1<x.1)=b):decide (((txS y).length:Int)-((lS y.2).length:Int)<((sp x.1).length:Int))=b:=by
  rw [tx_len,lS_len,sp_len,← h]
  apply decide_eq_decide.mpr
  omega
theorem lt_F {w:World}{c:Lx}{k:Nat}{fs:Str}{ps:List (Str×Tok)}{x y:Tx}{q:List Tx}(F:Front fs ps (y::q))(hx:OkT k x)(hy:OkT k y)(hk:k≤4)(hq:q.length<100)(hlt:y.1<x.1)(pe:Nat) :
    ∃ ps' pe',(∀ ft e vs wt mt,vs.length<sizeLine→(X_uF c fs ft (strValues ps) pe e (txS y) (strValues ps') pe' vs (sp x.1) wt (lS x.2) mt).Ok w)∧Front ⟨#[]⟩ ps' q:=by
  have hs:=sizeLine_eq
  have h1:=lb_le hk
  have h2:=p2_le hk
  have h3:=hy.w;have h4:=hy.l
  have:=len_ps F
  rw [List.length_cons] at this
  obtain ⟨ps',pe',T,h⟩:=take_of F hy (by omega) pe
  exact ⟨ps',pe',fun ft e vs wt mt hv=>(T ft).elim fun t T=>ok_uF (gs:=lS y.2) T (item_ok hx hk hv) (by rw [tx_len];omega) (by rw [lS_len];omega) (drop_tx hy) (cmp_tx (decide_eq_true hlt)),.inl ⟨rfl,h⟩⟩
theorem lt_P {w:World}{c:Lx}{k:Nat}{fs:Str}{ps:List (Str×Tok)}{x:Tx}{q:List Tx}(F:Front fs ps q)(hx:OkT k x)(hy:∀ y∈q,OkT k y)(hk:k≤4)(hq:q.length<100)(hlt:∀ y q',q=y::q'→¬ y.1<x.1)(pe:Nat) :
    ∃ h1 ps' pe',(∀ ft e vs wt mt,vs.length<sizeLine→(X_uP c fs ft (strValues ps) pe e h1 (strValues ps') pe' vs (sp x.1) wt (lS x.2) mt).Ok w)∧Front h1 ps' q:=by
  have hs:=sizeLine_eq
  have h1:=lb_le hk
  have h2:=p2_le hk
  cases q with
  | nil =>
    rcases F with ⟨rfl,h⟩ | ⟨y,q',h,_⟩
    · have:ps=[]:=by cases ps with
        | nil=>rfl
        | cons a ps=>cases h
      subst this
      exact ⟨⟨#[]⟩,[],pe,fun ft e vs wt mt hv=>ok_uP0 (item_ok hx hk hv),.inl ⟨rfl,rfl⟩⟩
    · cases h
  | cons y q =>
    have hy0:=hy y mS
    have h3:=hy0.w;have h4:=hy0.l
    have:=len_ps F
    rw [List.length_cons] at this hq
    obtain ⟨ps',pe',T,h⟩:=take_of F hy0 (by omega) pe
    exact ⟨txS y,ps',pe',fun ft e vs wt mt hv=>(T ft).elim fun t T=>ok_uP (gs:=lS y.2) T (item_ok hx hk hv) (by rw [tx_len];omega) (by rw [lS_len];omega) (drop_tx hy0) (cmp_tx (decide_eq_false (hlt y q rfl))),.inr ⟨y,q,rfl,rfl,h⟩⟩
inductive Tups (h:Heap):List Addr→List Tx→Prop
  | nil:Tups h [] []
  | cons {a:Addr} {as:List Addr} {x:Tx} {xs:List Tx} (wt mt:Nat):h.get? a=some (tupO [.str (sp x.1) wt,.str (lS x.2) mt])→Tups h as xs→Tups h (a::as) (x::xs)
theorem Tups.keep {h h':Heap}{as:List Addr}{xs:List Tx}(H:Tups h as xs)(k:∀ a∈as,∀ o,h.get? a=some o→h'.get? a=some o):Tups h' as xs:=by
  induction H with
  | nil=>exact .nil
  | cons wt mt e H ih=>exact .cons wt mt (k _ mS _ e) (ih fun a ha=>k a (mO ha))
theorem Tups.len {h:Heap}{as:List Addr}{xs:List Tx}(H:Tups h as xs):as.length=xs.length:=by
  induction H with
  | nil=>rfl
  | cons _ _ _ _ ih=>rw [List.length_cons,List.length_cons,ih]
noncomputable def refs (ts:List Addr):List Value:=ts.reverse.map .ref
theorem refs_cons (a:Addr)(ts:List Addr):refs (a::ts)=refs ts++[.ref a]:=by unfold refs;rw [List.reverse_cons,List.map_append];rfl
theorem refs_len (ts:List Addr):(refs ts).length=ts.length:=by unfold refs;rw [List.length_map,List.length_reverse]
theorem has_app {h:Heap}{as bs:List Addr}{xs ys:List Obj}(hl:as.length=xs.length):Has h (as++bs) (xs++ys)↔Has h as xs∧Has h bs ys:=by
  unfold Has
  rw [List.map_append,List.map_append]
  constructor
  · intro e
    exact List.append_inj e (by rw [List.length_map,List.length_map];exact hl)
  · rintro ⟨a,b⟩
    rw [a,b]
noncomputable abbrev bs (B:Nu):List Addr:=[B 0,B 1,B 2,B 3,B 4,B 5,B 6,B 7,B 8,B 9,B 10,B 11]
noncomputable abbrev bs8 (B:Nu):List Addr:=[B 3,B 4,B 5,B 6,B 7,B 8,B 9,B 10]
noncomputable abbrev st8 (c:Lx)(B:Nu):List Obj:=strm c.1 B 3 (.int c.2.1 c.2.2.1) (B 11) [] c.2.2.2.1
noncomputable abbrev adO (c:Lx):Obj:=accD c.2.2.2.2.1 c.2.2.2.2.2.1 c.2.2.2.2.2.2
theorem st8_congr {c:Lx}{μ B:Nu}(h:∀ j,j<12→μ j=B j):st8 c μ=st8 c B:=by
  unfold st8 strm
  rw [h (3+1) (by decide),h (3+2) (by decide),h (3+3) (by decide),h (3+4) (by decide),h (3+5) (by decide),h (3+6) (by decide),h (3+7) (by decide),h 11 (by decide)]
structure At (c:Lx)(B:Nu)(fr ac pb:Obj)(s:Shared):Prop where
  f:s.heap.get? (B 0)=some fr
  a:s.heap.get? (B 1)=some ac
  d:s.heap.get? (B 2)=some (adO c)
  st:Has s.heap (bs8 B) (st8 c B)
  p:s.heap.get? (B 11)=some pb
theorem At.has {c:Lx}{B:Nu}{fr ac pb:Obj}{s:Shared}(h:At c B fr ac pb s){tl:List Addr}{tu:List Obj}(ht:Has s.heap tl tu):Has s.heap (bs B++tl) ([fr,ac,adO c]++st8 c B++[pb]++tu):=by
  refine (has_app rfl).mpr ⟨?_,ht⟩
  show Has s.heap ([B 0,B 1,B 2]++(bs8 B++[B 11])) ([fr,ac,adO c]++st8 c B++[pb])
  rw [List.append_assoc]
  refine (has_app rfl).mpr ⟨has_cons.mpr ⟨h.f,has_cons.mpr ⟨h.a,has_cons.mpr ⟨h.d,rfl⟩⟩⟩,(has_app rfl).mpr ⟨h.st,has_cons.mpr ⟨h.p,rfl⟩⟩⟩
theorem At.of {c:Lx}{B:Nu}{fr ac pb:Obj}{s:Shared}{tl:List Addr}{tu:List Obj}(h:Has s.heap (bs B++tl) ([fr,ac,adO c]++st8 c B++[pb]++tu)):At c B fr ac pb s∧Has s.heap tl tu:=by
  obtain ⟨h1,h2⟩:=(has_app rfl).mp h
  refine ⟨?_,h2⟩
  rw [List.append_assoc] at h1
  obtain ⟨h3,h4⟩:=(has_app (as:=[B 0,B 1,B 2]) rfl).mp h1
  obtain ⟨h5,h6⟩:=(has_app (as:=bs8 B) rfl).mp h4
  obtain ⟨a0,h3⟩:=has_cons.mp h3
  obtain ⟨a1,h3⟩:=has_cons.mp h3
  exact ⟨a0,a1,(has_cons.mp h3).1,h5,(has_cons.mp h6).1⟩
theorem At.has0 {c:Lx}{B:Nu}{fr ac pb:Obj}{s:Shared}(h:At c B fr ac pb s):Has s.heap (bs B) ([fr,ac,adO c]++st8 c B++[pb]):=by
  have:=h.has (tl:=[]) (tu:=[]) rfl
  rwa [List.append_nil,List.append_nil] at this
theorem At.of0 {c:Lx}{B:Nu}{fr ac pb:Obj}{s:Shared}(h:Has s.heap (bs B) ([fr,ac,adO c]++st8 c B++[pb])):At c B fr ac pb s:=(At.of (tl:=[]) (tu:=[]) (by rw [List.append_nil,List.append_nil];exact h)).1
theorem front_push {fs:Str}{ps:List (Str×Tok)}{q:List Tx}{z:Tx}{y:Str}{t:Tok}(F:Front fs ps q)(h:y=txS z):Front fs (ps++[(y,t)]) (q++[z]):=by
  rcases F with ⟨h1,h2⟩ | ⟨a,q',rfl,h2,h3⟩
  · exact .inl ⟨h1,by rw [List.map_append,List.map_append,h2,h];rfl⟩
  · exact .inr ⟨a,q'++[z],rfl,h2,by rw [List.map_append,List.map_append,h3,h];rfl⟩
theorem front_nil {fs:Str}{ps:List (Str×Tok)}{q:List Tx}(F:Front fs ps q)(h:q=[]):fs=⟨#[]⟩:=by
  rcases F with ⟨h1,h2⟩ | ⟨a,q',h3,h2,_⟩
  · exact h1
  · rw [h] at h3;cases h3
theorem sv_push (ps:List (Str×Tok))(y:Str)(t:Tok):strValues ps++[.str y t]=strValues (ps++[(y,t)]):=by rw [strValues_append];rfl
structure Behind (w:World)(c:Lx)(B:Nu)(ct k kt:Nat)(x y:Tx)(hh:Nat→Int)(kkOk:(Nat→Nat)→Prop)(p q:List Tx)(ts:List Addr)(s s':Shared):Prop where
  after:After (gl w.params) (bs B) s s'
  ex:∃ (kk:Nat→Nat) (fs:Str) (ft:Nat) (ps:List (Str×Tok)) (pe es:Nat) (ts':List Addr) (t1 t2 t3 b u1 u2:Nat),kkOk kk ∧
    At c B (frL hh kk (B 1) (B 3) ct fs ft [.int (k:Nat) kt,.str (txS x) t1,.str (txS y) t2,.ref b,.int ((x.1+y.1:Nat):Int) t3] 9) (accO (B 2) (refs ts') es) (lst (strValues ps) pe) s' ∧
    Front fs ps (q++[glue k x y])∧(q=[]→fs=⟨#[]⟩)∧Tups s'.heap ts' p∧s'.heap.get? b=some (lst [.str (lS x.2) u1,.str (lS y.2) u2] 0)∧s.heap.objs.size≤b∧(∀ a∈ts',a∈ts∨(s.heap.objs.size≤a∧a≠b))∧ts'.Nodup
theorem free_sub {P:Params}{l l':List Addr}(h:∀ a∈l,gl P a=none∧183≤a)(hs:∀ a∈l',a∈l):∀ a∈l',gl P a=none∧183≤a:=fun a ha=>h a (hs a ha)
theorem pick_bs (B:Nu)(tl:List Addr):∀ j,j<12→pick (bs B++tl) 0 j=B j:=fun j hj=>by
  match j,hj with
  | 0,_=>rfl
  | 1,_=>rfl
  | 2,_=>rfl
  | 3,_=>rfl
  | 4,_=>rfl
  | 5,_=>rfl
  | 6,_=>rfl
  | 7,_=>rfl
  | 8,_=>rfl
  | 9,_=>rfl
  | 10,_=>rfl
  | 11,_=>rfl
theorem after_more {g:Addr→Option Obj}{as as':List Addr}{s s':Shared}(h:After g as s s')(hs:∀ a∈as,a∈as'):After g as' s s':=⟨h.glob,fun b o e hb=>h.keep b o e fun hm=>hb (hs b hm),h.size,h.gens,h.drawn,h.os,h.toks⟩
theorem has_same {h h':Heap}{as:List Addr}{os:List Obj}(h1:Has h as os)(h2:Has h' as os):∀ a∈as,h.get? a=h'.get? a:=List.map_inj_left.mp (Eq.trans h1 (Eq.symm h2))
theorem after_less {g:Addr→Option Obj}{as bs:List Addr}{os:List Obj}{s s':Shared}(h:After g (as++bs) s s')(h1:Has s.heap bs os)(h2:Has s'.heap bs os):After g as s s':=⟨h.glob,fun b o e hb=>by
  by_cases hm:b∈bs
  · rw [← has_same h1 h2 b hm];exact e
  · exact h.keep b o e fun hc=>(List.mem_append.mp hc).elim hb hm,h.size,h.gens,h.drawn,h.os,h.toks⟩
theorem nodup_app {l l1 l2:List Nat}(h:(l++(l1++l2)).Nodup):(l++l1).Nodup∧l2.Nodup∧∀ a∈l2,a ∉ l++l1:=by
  rw [← List.append_assoc] at h
  obtain ⟨h1,h2,h3⟩:=List.nodup_append.mp h
  exact ⟨h1,h2,fun a ha hb=>h3 a hb a ha rfl⟩
theorem sub_app {l l1 l2:List Nat}:∀ a∈l++l1,a∈l++(l1++l2):=fun a ha=>by rw [← List.append_assoc];exact List.mem_append_left _ ha
theorem body_0PP {w:World}{A:Around}{c:Lx}{B:Nu}{it ct k kt:Nat}{hh:Nat→Int}{kk:Nat→Nat}{fs:Str}{ft:Nat}{ps:List (Str×Tok)}{pe es:Nat}{a1 a2:Addr}{x x2:Tx}{ts:List Addr}{p q:List Tx}{s:Shared}{Q:Flow→Shared→Prop}{E:Value→Shared→Prop}
    (sA:Small A 390) (hg:∀ a o,gl w.params a=some o→s.heap.get? a=some o) (I:At c B (frL hh kk (B 1) (B 3) ct fs ft [.int (k:Nat) kt] 5) (accO (B 2) (refs (a1::a2::ts)) es) (lst (strValues ps) pe) s) (T:Tups s.heap (a1::a2::ts) (x::x2::p)) (F:Front fs ps q)
    (nd:(bs B++(a1::a2::ts)).Nodup) (fr:∀ a∈bs B++(a1::a2::ts),gl w.params a=none∧183≤a) (hx:OkT k x) (hx2:OkT k x2) (hq:∀ y∈q,OkT k y) (hk:k≤4) (hql:(q).length<90) (hlen:ts.length<90) (c1:∀ y q',q=y::q'→¬ y.1<x.1) (c2:∀ y q',q=y::q'→¬ y.1<x2.1)
    (K:∀ s',Behind w c B ct k kt x x2 (hOf w.params hh) (fun z=>∃ a b c d,z=kOf kk a b c d) p q (a1::a2::ts) s s'→Q .next s') :
    wpAt (model prg w) A (.forLoop llFor.1 (.ref it) llFor.2 [] (llE (B 0))) (execs llFor.2 (llE (B 0))) Q E s:=by
  have hsl:=sizeLine_eq
  cases T with
  | cons wat mat e1 T =>
  cases T with
  | cons wbt mbt e2 T =>
  obtain ⟨h1,ps1,pe1,H1,F1⟩:=lt_P (w:=w) (c:=c) F hx hq hk (by omega) c1 pe
  obtain ⟨h2,ps2,pe2,H2,F2⟩:=lt_P (w:=w) (c:=c) F1 hx2 hq hk (by omega) c2 pe1
  have hp2:=len_ps F2
  have r:Rest w k x x2:=rest_ok hx hx2 hk
  have er:refs (a1::a2::ts)=refs ts++[.ref a2]++[.ref a1]:=by rw [refs_cons,refs_cons]
  rw [er] at I
  obtain ⟨nd1,nd2,nd3⟩:=nodup_app (show (bs B++([a1,a2]++ts)).Nodup from nd)
  have fr1:=free_sub fr (show ∀ a∈bs B++[a1,a2],a∈bs B++([a1,a2]++ts) from sub_app)
  refine at_run (X:=X_b0PP w.params it c hh kk ct fs ft k kt (strValues ps) pe es h1 (strValues ps1) pe1 h2 (strValues ps2) pe2 (refs ts) (sp x.1) wat (lS x.2) mat (sp x2.1) wbt (lS x2.2) mbt (lS x.2) (lS x2.2)) (J:=pick (bs B++[a1,a2]) 0) (cs:=b0PP_cs w.params it c hh kk ct fs ft k kt (strValues ps) pe es h1 (strValues ps1) pe1 h2 (strValues ps2) pe2 (refs ts) (sp x.1) wat (lS x.2) mat (sp x2.1) wbt (lS x2.2) mbt (lS x.2) (lS x2.2) (row1 w) (row2 w)) (ns:=[22]) (ts:=[5,0,9,11,33,4,21,2,6,12,22]) (va_b0PP w (fun J=>H1 _ _ _ _ _ (by rw [List.length_append,refs_len,List.length_singleton];omega)) (fun t=>H2 _ _ _ _ _ (by rw [refs_len];omega)) r.l1 r.l2 r.n1 r.n2 r.n3 r.n4 r.m1 r.j1 r.d1 r.a1 r.q1 (by show (ps2.map _).length≤_;rw [List.length_map];omega) (row1 w) (row2 w)) rfl rfl (by decide) (show ∀ j∈([22]:List Nat),14≤j by decide) (run_b0PP it c hh kk ct fs ft k kt (strValues ps) pe es h1 (strValues ps1) pe1 h2 (strValues ps2) pe2 (refs ts) (sp x.1) wat (lS x.2) mat (sp x2.1) wbt (lS x2.2) mbt (lS x.2) (lS x2.2) w.params (row1 w) (row2 w)) rfl rfl sA hg (I.has (tl:=[a1,a2]) (has_cons.mpr ⟨e1,has_cons.mpr ⟨e2,rfl⟩⟩)) nd1 fr1 ?_
  rintro r' s' ⟨μ,θ,E⟩
  have res:r'=.ok .next:=E.res
  subst res
  have hμ:∀ j,j<12→μ j=B j:=fun j hj=>(E.agree j (show j<14 by omega)).trans (pick_bs B _ j hj)
  have post:Has s'.heap (bs B++[a1,a2]) ([frL (hOf w.params hh) (kOf kk (θ 7) (θ 8) (θ 9) (θ 10)) (μ 1) (μ 3) ct h2 (θ 0) [.int (k:Nat) kt,.str (txS x) (θ 1),.str (txS x2) (θ 5),.ref (μ 14),.int ((((txS x).length:Int)+((txS x2).length:Int))-((lS x.2).length:Int)-((lS x2.2).length:Int)) (θ 6)] 9,accO (μ 2) (refs ts) ((es+1)+1),adO c]++st8 c μ++[lst (strValues ps2++[.str (sp ((((txS x).length:Int)+((txS x2).length:Int))-((lS x.2).length:Int)-((lS x2.2).length:Int)).toNat++qd (jn k x x2)) (θ 4)]) (pe2+1)]++[tupO [.str (sp x.1) wat,.str (lS x.2) mat],tupO [.str (sp x2.1) wbt,.str (lS x2.2) mbt]]):=E.post
  rw [st8_congr hμ,hμ 1 (by decide),hμ 2 (by decide),hμ 3 (by decide),num_eq,sv_push] at post
  obtain ⟨I2,hT2⟩:=At.of post
  have nw:Has s'.heap [μ 14] [lst [.str (lS x.2) (θ 2),.str (lS x2.2) (θ 3)] 0]:=E.new
  obtain ⟨w1,_⟩:=has_cons.mp nw
  have f0:s.heap.objs.size≤μ 14:=E.fresh 0 (show 0<1 by decide)
  have af:After (gl w.params) (bs B++[a1,a2]) s s':=E.after
  have T':Tups s'.heap ts p:=T.keep fun a ha o e=>af.keep a o e (nd3 a ha)
  exact K s' ⟨(after_less af (has_cons.mpr ⟨e1,has_cons.mpr ⟨e2,show Has s.heap [] [] from rfl⟩⟩) hT2),(kOf kk (θ 7) (θ 8) (θ 9) (θ 10)),h2,θ 0,ps2++[(sp (x.1+x2.1:Nat)++qd (jn k x x2),θ 4)],pe2+1,((es+1)+1),ts,θ 1,θ 5,θ 6,μ 14,θ 2,θ 3,⟨_,_,_,_,rfl⟩,I2,front_push F2 (glue_tx k x x2).symm,front_nil F2,T',w1,f0,(fun a ha=>.inl (by simp only [List.mem_cons];exact Or.inr (Or.inr ha))),nd2⟩
theorem body_PP {w:World}{A:Around}{c:Lx}{B:Nu}{it ct k kt:Nat}{hh:Nat→Int}{kk:Nat→Nat}{fs:Str}{ft:Nat}{o1 o2 o3 o4:Value}{ps:List (Str×Tok)}{pe es:Nat}{a1 a2:Addr}{x x2:Tx}{ts:List Addr}{p q:List Tx}{s:Shared}{Q:Flow→Shared→Prop}{E:Value→Shared→Prop}
    (sA:Small A 390) (hg:∀ a o,gl w.params a=some o→s.heap.get? a=some o) (I:At c B (frL hh kk (B 1) (B 3) ct fs ft [.int (k:Nat) kt,o1,o2,o3,o4] 9) (accO (B 2) (refs (a1::a2::ts)) es) (lst (strValues ps) pe) s) (T:Tups s.heap (a1::a2::ts) (x::x2::p)) (F:Front fs ps q)
    (nd:(bs B++(a1::a2::ts)).Nodup) (fr:∀ a∈bs B++(a1::a2::ts),gl w.params a=none∧183≤a) (hx:OkT k x) (hx2:OkT k x2) (hq:∀ y∈q,OkT k y) (hk:k≤4) (hql:(q).length<90) (hlen:ts.length<90) (c1:∀ y q',q=y::q'→¬ y.1<x.1) (c2:∀ y q',q=y::q'→¬ y.1<x2.1)
    (K:∀ s',Behind w c B ct k kt x x2 hh (fun z=>z=kk) p q (a1::a2::ts) s s'→Q .next s') :
    wpAt (model prg w) A (.forLoop llFor.1 (.ref it) llFor.2 [] (llE (B 0))) (execs llFor.2 (llE (B 0))) Q E s:=by
  have hsl:=sizeLine_eq
  cases T with
  | cons wat mat e1 T =>
  cases T with
  | cons wbt mbt e2 T =>
  obtain ⟨h1,ps1,pe1,H1,F1⟩:=lt_P (w:=w) (c:=c) F hx hq hk (by omega) c1 pe
  obtain ⟨h2,ps2,pe2,H2,F2⟩:=lt_P (w:=w) (c:=c) F1 hx2 hq hk (by omega) c2 pe1
  have hp2:=len_ps F2
  have r:Rest w k x x2:=rest_ok hx hx2 hk
  have er:refs (a1::a2::ts)=refs ts++[.ref a2]++[.ref a1]:=by rw [refs_cons,refs_cons]
  rw [er] at I
  obtain ⟨nd1,nd2,nd3⟩:=nodup_app (show (bs B++([a1,a2]++ts)).Nodup from nd)
  have fr1:=free_sub fr (show ∀ a∈bs B++[a1,a2],a∈bs B++([a1,a2]++ts) from sub_app)
  refine at_run (X:=X_bPP it c hh kk ct fs ft k kt o1 o2 o3 o4 (strValues ps) pe es h1 (strValues ps1) pe1 h2 (strValues ps2) pe2 (refs ts) (sp x.1) wat (lS x.2) mat (sp x2.1) wbt (lS x2.2) mbt (lS x.2) (lS x2.2)) (J:=pick (bs B++[a1,a2]) 0) (cs:=bPP_cs w.params it c hh kk ct fs ft k kt o1 o2 o3 o4 (strValues ps) pe es h1 (strValues ps1) pe1 h2 (strValues ps2) pe2 (refs ts) (sp x.1) wat (lS x.2) mat (sp x2.1) wbt (lS x2.2) mbt (lS x.2) (lS x2.2) (row1 w) (row2 w)) (ns:=[22]) (ts:=[5,0,9,11,33,4,21]) (va_bPP w (fun J=>H1 _ _ _ _ _ (by rw [List.length_append,refs_len,List.length_singleton];omega)) (fun t=>H2 _ _ _ _ _ (by rw [refs_len];omega)) r.l1 r.l2 r.n1 r.n2 r.n3 r.n4 r.m1 r.j1 r.d1 r.a1 r.q1 (by show (ps2.map _).length≤_;rw [List.length_map];omega) (row1 w) (row2 w)) rfl rfl (by decide) (show ∀ j∈([22]:List Nat),14≤j by decide) (run_bPP it c hh kk ct fs ft k kt o1 o2 o3 o4 (strValues ps) pe es h1 (strValues ps1) pe1 h2 (strValues ps2) pe2 (refs ts) (sp x.1) wat (lS x.2) mat (sp x2.1) wbt (lS x2.2) mbt (lS x.2) (lS x2.2) w.params (row1 w) (row2 w)) rfl rfl sA hg (I.has (tl:=[a1,a2]) (has_cons.mpr ⟨e1,has_cons.mpr ⟨e2,rfl⟩⟩)) nd1 fr1 ?_
  rintro r' s' ⟨μ,θ,E⟩
  have res:r'=.ok .next:=E.res
  subst res
  have hμ:∀ j,j<12→μ j=B j:=fun j hj=>(E.agree j (show j<14 by omega)).trans (pick_bs B _ j hj)
  have post:Has s'.heap (bs B++[a1,a2]) ([frL hh kk (μ 1) (μ 3) ct h2 (θ 0) [.int (k:Nat) kt,.str (txS x) (θ 1),.str (txS x2) (θ 5),.ref (μ 14),.int ((((txS x).length:Int)+((txS x2).length:Int))-((lS x.2).length:Int)-((lS x2.2).length:Int)) (θ 6)] 9,accO (μ 2) (refs ts) ((es+1)+1),adO c]++st8 c μ++[lst (strValues ps2++[.str (sp ((((txS x).length:Int)+((txS x2).length:Int))-((lS x.2).length:Int)-((lS x2.2).length:Int)).toNat++qd (jn k x x2)) (θ 4)]) (pe2+1)]++[tupO [.str (sp x.1) wat,.str (lS x.2) mat],tupO [.str (sp x2.1) wbt,.str (lS x2.2) mbt]]):=E.post
  rw [st8_congr hμ,hμ 1 (by decide),hμ 2 (by decide),hμ 3 (by decide),num_eq,sv_push] at post
  obtain ⟨I2,hT2⟩:=At.of post
  have nw:Has s'.heap [μ 14] [lst [.str (lS x.2) (θ 2),.str (lS x2.2) (θ 3)] 0]:=E.new
  obtain ⟨w1,_⟩:=has_cons.mp nw
  have f0:s.heap.objs.size≤μ 14:=E.fresh 0 (show 0<1 by decide)
  have af:After (gl w.params) (bs B++[a1,a2]) s s':=E.after
  have T':Tups s'.heap ts p:=T.keep fun a ha o e=>af.keep a o e (nd3 a ha)
  exact K s' ⟨(after_less af (has_cons.mpr ⟨e1,has_cons.mpr ⟨e2,show Has s.heap [] [] from rfl⟩⟩) hT2),kk,h2,θ 0,ps2++[(sp (x.1+x2.1:Nat)++qd (jn k x x2),θ 4)],pe2+1,((es+1)+1),ts,θ 1,θ 5,θ 6,μ 14,θ 2,θ 3,rfl,I2,front_push F2 (glue_tx k x x2).symm,front_nil F2,T',w1,f0,(fun a ha=>.inl (by simp only [List.mem_cons];exact Or.inr (Or.inr ha))),nd2⟩
theorem body_PF {w:World}{A:Around}{c:Lx}{B:Nu}{it ct k kt:Nat}{hh:Nat→Int}{kk:Nat→Nat}{fs:Str}{ft:Nat}{o1 o2 o3 o4:Value}{ps:List (Str×Tok)}{pe es:Nat}{a1 a2:Addr}{x x2:Tx}{ts:List Addr}{p:List Tx}{y1:Tx}{q:List Tx}{s:Shared}{Q:Flow→Shared→Prop}{E:Value→Shared→Prop}
    (sA:Small A 390) (hg:∀ a o,gl w.params a=some o→s.heap.get? a=some o) (I:At c B (frL hh kk (B 1) (B 3) ct fs ft [.int (k:Nat) kt,o1,o2,o3,o4] 9) (accO (B 2) (refs (a1::a2::ts)) es) (lst (strValues ps) pe) s) (T:Tups s.heap (a1::a2::ts) (x::x2::p)) (F:Front fs ps (y1::q))
    (nd:(bs B++(a1::a2::ts)).Nodup) (fr:∀ a∈bs B++(a1::a2::ts),gl w.params a=none∧183≤a) (hx:OkT k x) (hx2:OkT k x2) (hq:∀ y∈(y1::q),OkT k y) (hk:k≤4) (hql:((y1::q)).length<90) (hlen:ts.length<90) (c1:∀ y q',(y1::q)=y::q'→¬ y.1<x.1) (c2:y1.1<x2.1)
    (K:∀ s',Behind w c B ct k kt x y1 hh (fun z=>z=kk) (x2::p) q (a1::a2::ts) s s'→Q .next s') :
    wpAt (model prg w) A (.forLoop llFor.1 (.ref it) llFor.2 [] (llE (B 0))) (execs llFor.2 (llE (B 0))) Q E s:=by
  have hsl:=sizeLine_eq
  have hy1:OkT k y1:=hq y1 mS
  have hq2:∀ y∈q,OkT k y:=fun y hy=>hq y (mO hy)
  have hl0:q.length<80+10:=by simp only [List.length_cons] at hql;omega
  cases T with
  | cons wat mat e1 T =>
  cases T with
  | cons wbt mbt e2 T =>
  obtain ⟨h1,ps1,pe1,H1,F1⟩:=lt_P (w:=w) (c:=c) F hx hq hk (by omega) c1 pe
  obtain ⟨ps2,pe2,H2,F2⟩:=lt_F (w:=w) (c:=c) F1 hx2 hy1 hk (by simp only [List.length_cons] at hql ⊢;omega) c2 pe1
  have hp2:=len_ps F2
  simp only [List.length_cons] at hp2 hql
  have r:Rest w k x y1:=rest_ok hx hy1 hk
  have er:refs (a1::a2::ts)=refs ts++[.ref a2]++[.ref a1]:=by rw [refs_cons,refs_cons]
  rw [er] at I
  obtain ⟨nd1,nd2,nd3⟩:=nodup_app (show (bs B++([a1,a2]++ts)).Nodup from nd)
  have fr1:=free_sub fr (show ∀ a∈bs B++[a1,a2],a∈bs B++([a1,a2]++ts) from sub_app)
  refine at_run (X:=X_bPF it c hh kk ct fs ft k kt o1 o2 o3 o4 (strValues ps) pe es h1 (strValues ps1) pe1 (txS y1) (strValues ps2) pe2 (refs ts) (sp x.1) wat (lS x.2) mat (sp x2.1) wbt (lS x2.2) mbt (lS x.2) (lS y1.2)) (J:=pick (bs B++[a1,a2]) 0) (cs:=bPF_cs w.params it c hh kk ct fs ft k kt o1 o2 o3 o4 (strValues ps) pe es h1 (strValues ps1) pe1 (txS y1) (strValues ps2) pe2 (refs ts) (sp x.1) wat (lS x.2) mat (sp x2.1) wbt (lS x2.2) mbt (lS x.2) (lS y1.2) (row1 w) (row2 w)) (ns:=[23,19]) (ts:=[5,0,9,11,33,4,21]) (va_bPF w (fun J=>H1 _ _ _ _ _ (by rw [List.length_append,refs_len,List.length_singleton];omega)) (fun t=>H2 _ _ _ _ _ (by rw [refs_len];omega)) r.l1 r.l2 r.n1 r.n2 r.n3 r.n4 r.m1 r.j1 r.d1 r.a1 r.q1 (by show (ps2.map _).length≤_;rw [List.length_map];omega) (row1 w) (row2 w)) rfl rfl (by decide) (show ∀ j∈([23,19]:List Nat),14≤j by decide) (run_bPF it c hh kk ct fs ft k kt o1 o2 o3 o4 (strValues ps) pe es h1 (strValues ps1) pe1 (txS y1) (strValues ps2) pe2 (refs ts) (sp x.1) wat (lS x.2) mat (sp x2.1) wbt (lS x2.2) mbt (lS x.2) (lS y1.2) w.params (row1 w) (row2 w)) rfl rfl sA hg (I.has (tl:=[a1,a2]) (has_cons.mpr ⟨e1,has_cons.mpr ⟨e2,rfl⟩⟩)) nd1 fr1 ?_
  rintro r' s' ⟨μ,θ,E⟩
  have res:r'=.ok .next:=E.res
  subst res
  have hμ:∀ j,j<12→μ j=B j:=fun j hj=>(E.agree j (show j<14 by omega)).trans (pick_bs B _ j hj)
  have post:Has s'.heap (bs B++[a1,a2]) ([frL hh kk (μ 1) (μ 3) ct ⟨#[]⟩ (θ 0) [.int (k:Nat) kt,.str (txS x) (θ 1),.str (txS y1) (θ 5),.ref (μ 14),.int ((((txS x).length:Int)+((txS y1).length:Int))-((lS x.2).length:Int)-((lS y1.2).length:Int)) (θ 6)] 9,accO (μ 2) (refs ts++[.ref (μ 15)]) ((es+1)+1+1),adO c]++st8 c μ++[lst (strValues ps2++[.str (sp ((((txS x).length:Int)+((txS y1).length:Int))-((lS x.2).length:Int)-((lS y1.2).length:Int)).toNat++qd (jn k x y1)) (θ 4)]) (pe2+1)]++[tupO [.str (sp x.1) wat,.str (lS x.2) mat],tupO [.str (sp x2.1) wbt,.str (lS x2.2) mbt]]):=E.post
  rw [st8_congr hμ,hμ 1 (by decide),hμ 2 (by decide),hμ 3 (by decide),num_eq,sv_push] at post
  obtain ⟨I2,hT2⟩:=At.of post
  have nw:Has s'.heap [μ 14,μ 15] [lst [.str (lS x.2) (θ 2),.str (lS y1.2) (θ 3)] 0,tupO [.str (sp x2.1) wbt,.str (lS x2.2) mbt]]:=E.new
  have nb:μ 14≠μ 15:=fun z=>absurd (E.inj 0 1 (show 0<2 by decide) (show 1<2 by decide) z) (by decide)
  have f1:s.heap.objs.size≤μ 15:=E.fresh 1 (show 1<2 by decide)
  obtain ⟨w1,w2⟩:=has_cons.mp nw
  obtain ⟨w2,_⟩:=has_cons.mp w2
  have f0:s.heap.objs.size≤μ 14:=E.fresh 0 (show 0<2 by decide)
  have af:After (gl w.params) (bs B++[a1,a2]) s s':=E.after
  have T':Tups s'.heap ts p:=T.keep fun a ha o e=>af.keep a o e (nd3 a ha)
  exact K s' ⟨(after_less af (has_cons.mpr ⟨e1,has_cons.mpr ⟨e2,show Has s.heap [] [] from rfl⟩⟩) hT2),kk,⟨#[]⟩,θ 0,ps2++[(sp (x.1+y1.1:Nat)++qd (jn k x y1),θ 4)],pe2+1,((es+1)+1+1),((μ 15)::ts),θ 1,θ 5,θ 6,μ 14,θ 2,θ 3,rfl,(by rw [refs_cons];exact I2),front_push F2 (glue_tx k x y1).symm,front_nil F2,(.cons wbt mbt w2 T'),w1,f0,(fun a ha=>by
      rcases mQ ha with rfl | ha
      · exact .inr ⟨f1,fun z=>nb z.symm⟩
      · exact .inl (by simp only [List.mem_cons];exact Or.inr (Or.inr ha))),(List.nodup_cons.mpr ⟨fun hm=>(by
      have:∀ {as:List Addr} {xs:List Tx},Tups s.heap as xs→∀ a∈as,a<s.heap.objs.size:=fun H=>by
        induction H with
        | nil=>intro a ha;cases ha
        | cons _ _ e _ ih =>
          intro a ha
          rcases mQ ha with rfl | ha
          · exact Heap.lt_size e
          · exact ih a ha
      exact absurd (this T _ hm) (Nat.not_lt.mpr f1)),nd2⟩)⟩
theorem body_PE {w:World}{A:Around}{c:Lx}{B:Nu}{it ct k kt:Nat}{hh:Nat→Int}{kk:Nat→Nat}{fs:Str}{ft:Nat}{o1 o2 o3 o4:Value}{ps:List (Str×Tok)}{pe es:Nat}{a1:Addr}{x y1:Tx}{q:List Tx}{s:Shared}{Q:Flow→Shared→Prop}{E:Value→Shared→Prop}
    (sA:Small A 390) (hg:∀ a o,gl w.params a=some o→s.heap.get? a=some o) (I:At c B (frL hh kk (B 1) (B 3) ct fs ft [.int (k:Nat) kt,o1,o2,o3,o4] 9) (accO (B 2) (refs (a1::[])) es) (lst (strValues ps) pe) s) (T:Tups s.heap (a1::[]) (x::[])) (F:Front fs ps (y1::q))
    (nd:(bs B++(a1::[])).Nodup) (fr:∀ a∈bs B++(a1::[]),gl w.params a=none∧183≤a) (hx:OkT k x) (hq:∀ y∈(y1::q),OkT k y) (hk:k≤4) (hql:((y1::q)).length<90) (c1:∀ y q',(y1::q)=y::q'→¬ y.1<x.1)
    (K:∀ s',Behind w c B ct k kt x y1 hh (fun z=>z=kk) [] q (a1::[]) s s'→Q .next s') :
    wpAt (model prg w) A (.forLoop llFor.1 (.ref it) llFor.2 [] (llE (B 0))) (execs llFor.2 (llE (B 0))) Q E s:=by
  have hsl:=sizeLine_eq
  have hy1:OkT k y1:=hq y1 mS
  have hq2:∀ y∈q,OkT k y:=fun y hy=>hq y (mO hy)
  have hl0:q.length<80+10:=by simp only [List.length_cons] at hql;omega
  cases T with
  | cons wat mat e1 T =>
  obtain ⟨h1,ps1,pe1,H1,F1⟩:=lt_P (w:=w) (c:=c) F hx hq hk (by omega) c1 pe
  obtain ⟨ps2,pe2,H2,F2⟩:=lt_E (w:=w) (c:=c) F1 hy1 (by simp only [List.length_cons] at hql ⊢;omega) pe1
  have hp2:=len_ps F2
  simp only [List.length_cons] at hp2 hql
  have r:Rest w k x y1:=rest_ok hx hy1 hk
  rw [show refs [a1]=[.ref a1] from rfl] at I
  obtain ⟨nd1,nd2,nd3⟩:=nodup_app (show (bs B++([a1]++[])).Nodup from nd)
  have fr1:=free_sub fr (show ∀ a∈bs B++[a1],a∈bs B++([a1]++[]) from sub_app)
  refine at_run (X:=X_bPE it c hh kk ct fs ft k kt o1 o2 o3 o4 (strValues ps) pe es h1 (strValues ps1) pe1 (txS y1) (strValues ps2) pe2 [] (sp x.1) wat (lS x.2) mat (lS x.2) (lS y1.2)) (J:=pick (bs B++[a1]) 0) (cs:=bPE_cs w.params it c hh kk ct fs ft k kt o1 o2 o3 o4 (strValues ps) pe es h1 (strValues ps1) pe1 (txS y1) (strValues ps2) pe2 [] (sp x.1) wat (lS x.2) mat (lS x.2) (lS y1.2) (row1 w) (row2 w)) (ns:=[21]) (ts:=[5,0,9,11,33,4,21]) (va_bPE w (fun J=>H1 _ _ _ _ _ (by rw [hsl];simp)) (fun t=>H2 _ _) r.l1 r.l2 r.n1 r.n2 r.n3 r.n4 r.m1 r.j1 r.d1 r.a1 r.q1 (by show (ps2.map _).length≤_;rw [List.length_map];omega) (row1 w) (row2 w)) rfl rfl (by decide) (show ∀ j∈([21]:List Nat),13≤j by decide) (run_bPE it c hh kk ct fs ft k kt o1 o2 o3 o4 (strValues ps) pe es h1 (strValues ps1) pe1 (txS y1) (strValues ps2) pe2 [] (sp x.1) wat (lS x.2) mat (lS x.2) (lS y1.2) w.params (row1 w) (row2 w)) rfl rfl sA hg (I.has (tl:=[a1]) (has_cons.mpr ⟨e1,rfl⟩)) nd1 fr1 ?_
  rintro r' s' ⟨μ,θ,E⟩
  have res:r'=.ok .next:=E.res
  subst res
  have hμ:∀ j,j<12→μ j=B j:=fun j hj=>(E.agree j (show j<13 by omega)).trans (pick_bs B _ j hj)
  have post:Has s'.heap (bs B++[a1]) ([frL hh kk (μ 1) (μ 3) ct ⟨#[]⟩ (θ 0) [.int (k:Nat) kt,.str (txS x) (θ 1),.str (txS y1) (θ 5),.ref (μ 13),.int ((((txS x).length:Int)+((txS y1).length:Int))-((lS x.2).length:Int)-((lS y1.2).length:Int)) (θ 6)] 9,accO (μ 2) [] (es+1),adO c]++st8 c μ++[lst (strValues ps2++[.str (sp ((((txS x).length:Int)+((txS y1).length:Int))-((lS x.2).length:Int)-((lS y1.2).length:Int)).toNat++qd (jn k x y1)) (θ 4)]) (pe2+1)]++[tupO [.str (sp x.1) wat,.str (lS x.2) mat]]):=E.post
  rw [st8_congr hμ,hμ 1 (by decide),hμ 2 (by decide),hμ 3 (by decide),num_eq,sv_push] at post
  obtain ⟨I2,hT2⟩:=At.of post
  have nw:Has s'.heap [μ 13] [lst [.str (lS x.2) (θ 2),.str (lS y1.2) (θ 3)] 0]:=E.new
  obtain ⟨w1,_⟩:=has_cons.mp nw
  have f0:s.heap.objs.size≤μ 13:=E.fresh 0 (show 0<1 by decide)
  have af:After (gl w.params) (bs B++[a1]) s s':=E.after
  exact K s' ⟨(after_less af (has_cons.mpr ⟨e1,show Has s.heap [] [] from rfl⟩) hT2),kk,⟨#[]⟩,θ 0,ps2++[(sp (x.1+y1.1:Nat)++qd (jn k x y1),θ 4)],pe2+1,(es+1),[],θ 1,θ 5,θ 6,μ 13,θ 2,θ 3,rfl,I2,front_push F2 (glue_tx k x y1).symm,front_nil F2,.nil,w1,f0,(fun a ha=>by cases ha),List.nodup_nil⟩
theorem body_FP {w:World}{A:Around}{c:Lx}{B:Nu}{it ct k kt:Nat}{hh:Nat→Int}{kk:Nat→Nat}{fs:Str}{ft:Nat}{o1 o2 o3 o4:Value}{ps:List (Str×Tok)}{pe es:Nat}{a1:Addr}{x:Tx}{ts:List Addr}{p:List Tx}{y1:Tx}{q:List Tx}{s:Shared}{Q:Flow→Shared→Prop}{E:Value→Shared→Prop}
    (sA:Small A 390) (hg:∀ a o,gl w.params a=some o→s.heap.get? a=some o) (I:At c B (frL hh kk (B 1) (B 3) ct fs ft [.int (k:Nat) kt,o1,o2,o3,o4] 9) (accO (B 2) (refs (a1::ts)) es) (lst (strValues ps) pe) s) (T:Tups s.heap (a1::ts) (x::p)) (F:Front fs ps (y1::q))
    (nd:(bs B++(a1::ts)).Nodup) (fr:∀ a∈bs B++(a1::ts),gl w.params a=none∧183≤a) (hx:OkT k x) (hq:∀ y∈(y1::q),OkT k y) (hk:k≤4) (hql:((y1::q)).length<90) (hlen:ts.length<90) (c1:y1.1<x.1) (c2:∀ y q',q=y::q'→¬ y.1<x.1)
    (K:∀ s',Behind w c B ct k kt y1 x hh (fun z=>z=kk) p q (a1::ts) s s'→Q .next s') :
    wpAt (model prg w) A (.forLoop llFor.1 (.ref it) llFor.2 [] (llE (B 0))) (execs llFor.2 (llE (B 0))) Q E s:=by
  have hsl:=sizeLine_eq
  have hy1:OkT k y1:=hq y1 mS
  have hq2:∀ y∈q,OkT k y:=fun y hy=>hq y (mO hy)
  have hl0:q.length<80+10:=by simp only [List.length_cons] at hql;omega
  cases T with
  | cons wat mat e1 T =>
  obtain ⟨ps1,pe1,H1,F1⟩:=lt_F (w:=w) (c:=c) F hx hy1 hk (by simp only [List.length_cons] at hql ⊢;omega) c1 pe
  obtain ⟨h2,ps2,pe2,H2,F2⟩:=lt_P (w:=w) (c:=c) F1 hx hq2 hk (by omega) c2 pe1
  have hp2:=len_ps F2
  simp only [List.length_cons] at hp2 hql
  have r:Rest w k y1 x:=rest_ok hy1 hx hk
  have er:refs (a1::ts)=refs ts++[.ref a1]:=refs_cons a1 ts
  rw [er] at I
  obtain ⟨nd1,nd2,nd3⟩:=nodup_app (show (bs B++([a1]++ts)).Nodup from nd)
  have fr1:=free_sub fr (show ∀ a∈bs B++[a1],a∈bs B++([a1]++ts) from sub_app)
  refine at_run (X:=X_bFP it c hh kk ct fs ft k kt o1 o2 o3 o4 (strValues ps) pe es (txS y1) (strValues ps1) pe1 h2 (strValues ps2) pe2 (refs ts) (sp x.1) wat (lS x.2) mat (lS y1.2) (lS x.2)) (J:=pick (bs B++[a1]) 0) (cs:=bFP_cs w.params it c hh kk ct fs ft k kt o1 o2 o3 o4 (strValues ps) pe es (txS y1) (strValues ps1) pe1 h2 (strValues ps2) pe2 (refs ts) (sp x.1) wat (lS x.2) mat (lS y1.2) (lS x.2) (row1 w) (row2 w)) (ns:=[22]) (ts:=[5,0,9,11,33,4,21]) (va_bFP w (H1 _ _ _ _ _ (by rw [refs_len];omega)) (fun t=>H2 _ _ _ _ _ (by rw [refs_len];omega)) r.l1 r.l2 r.n1 r.n2 r.n3 r.n4 r.m1 r.j1 r.d1 r.a1 r.q1 (by show (ps2.map _).length≤_;rw [List.length_map];omega) (row1 w) (row2 w)) rfl rfl (by decide) (show ∀ j∈([22]:List Nat),13≤j by decide) (run_bFP it c hh kk ct fs ft k kt o1 o2 o3 o4 (strValues ps) pe es (txS y1) (strValues ps1) pe1 h2 (strValues ps2) pe2 (refs ts) (sp x.1) wat (lS x.2) mat (lS y1.2) (lS x.2) w.params (row1 w) (row2 w)) rfl rfl sA hg (I.has (tl:=[a1]) (has_cons.mpr ⟨e1,rfl⟩)) nd1 fr1 ?_
  rintro r' s' ⟨μ,θ,E⟩
  have res:r'=.ok .next:=E.res
  subst res
  have hμ:∀ j,j<12→μ j=B j:=fun j hj=>(E.agree j (show j<13 by omega)).trans (pick_bs B _ j hj)
  have post:Has s'.heap (bs B++[a1]) ([frL hh kk (μ 1) (μ 3) ct h2 (θ 0) [.int (k:Nat) kt,.str (txS y1) (θ 1),.str (txS x) (θ 5),.ref (μ 13),.int ((((txS y1).length:Int)+((txS x).length:Int))-((lS y1.2).length:Int)-((lS x.2).length:Int)) (θ 6)] 9,accO (μ 2) (refs ts) ((es+1+1)+1),adO c]++st8 c μ++[lst (strValues ps2++[.str (sp ((((txS y1).length:Int)+((txS x).length:Int))-((lS y1.2).length:Int)-((lS x.2).length:Int)).toNat++qd (jn k y1 x)) (θ 4)]) (pe2+1)]++[tupO [.str (sp x.1) wat,.str (lS x.2) mat]]):=E.post
  rw [st8_congr hμ,hμ 1 (by decide),hμ 2 (by decide),hμ 3 (by decide),num_eq,sv_push] at post
  obtain ⟨I2,hT2⟩:=At.of post
  have nw:Has s'.heap [μ 13] [lst [.str (lS y1.2) (θ 2),.str (lS x.2) (θ 3)] 0]:=E.new
  obtain ⟨w1,_⟩:=has_cons.mp nw
  have f0:s.heap.objs.size≤μ 13:=E.fresh 0 (show 0<1 by decide)
  have af:After (gl w.params) (bs B++[a1]) s s':=E.after
  have T':Tups s'.heap ts p:=T.keep fun a ha o e=>af.keep a o e (nd3 a ha)
  exact K s' ⟨(after_less af (has_cons.mpr ⟨e1,show Has s.heap [] [] from rfl⟩) hT2),kk,h2,θ 0,ps2++[(sp (y1.1+x.1:Nat)++qd (jn k y1 x),θ 4)],pe2+1,((es+1+1)+1),ts,θ 1,θ 5,θ 6,μ 13,θ 2,θ 3,rfl,I2,front_push F2 (glue_tx k y1 x).symm,front_nil F2,T',w1,f0,(fun a ha=>.inl (by simp only [List.mem_cons];exact Or.inr ha)),nd2⟩
theorem body_FF {w:World}{A:Around}{c:Lx}{B:Nu}{it ct k kt:Nat}{hh:Nat→Int}{kk:Nat→Nat}{fs:Str}{ft:Nat}{o1 o2 o3 o4:Value}{ps:List (Str×Tok)}{pe es:Nat}{a1:Addr}{x:Tx}{ts:List Addr}{p:List Tx}{y1 y2:Tx}{q:List Tx}{s:Shared}{Q:Flow→Shared→Prop}{E:Value→Shared→Prop}
    (sA:Small A 390) (hg:∀ a o,gl w.params a=some o→s.heap.get? a=some o) (I:At c B (frL hh kk (B 1) (B 3) ct fs ft [.int (k:Nat) kt,o1,o2,o3,o4] 9) (accO (B 2) (refs (a1::ts)) es) (lst (strValues ps) pe) s) (T:Tups s.heap (a1::ts) (x::p)) (F:Front fs ps (y1::y2::q))
    (nd:(bs B++(a1::ts)).Nodup) (fr:∀ a∈bs B++(a1::ts),gl w.params a=none∧183≤a) (hx:OkT k x) (hq:∀ y∈(y1::y2::q),OkT k y) (hk:k≤4) (hql:((y1::y2::q)).length<90) (hlen:ts.length<90) (c1:y1.1<x.1) (c2:y2.1<x.1)
    (K:∀ s',Behind w c B ct k kt y1 y2 hh (fun z=>z=kk) (x::p) q (a1::ts) s s'→Q .next s') :
    wpAt (model prg w) A (.forLoop llFor.1 (.ref it) llFor.2 [] (llE (B 0))) (execs llFor.2 (llE (B 0))) Q E s:=by
  have hsl:=sizeLine_eq
  have hy1:OkT k y1:=hq y1 mS
  have hy2:OkT k y2:=hq y2 (mO mS)
  have hq2:∀ y∈q,OkT k y:=fun y hy=>hq y (mO (mO hy))
  have hl0:q.length<80+10:=by simp only [List.length_cons] at hql;omega
  cases T with
  | cons wat mat e1 T =>
  obtain ⟨ps1,pe1,H1,F1⟩:=lt_F (w:=w) (c:=c) F hx hy1 hk (by simp only [List.length_cons] at hql ⊢;omega) c1 pe
  obtain ⟨ps2,pe2,H2,F2⟩:=lt_F (w:=w) (c:=c) F1 hx hy2 hk (by simp only [List.length_cons] at hql ⊢;omega) c2 pe1
  have hp2:=len_ps F2
  simp only [List.length_cons] at hp2 hql
  have r:Rest w k y1 y2:=rest_ok hy1 hy2 hk
  have er:refs (a1::ts)=refs ts++[.ref a1]:=refs_cons a1 ts
  rw [er] at I
  obtain ⟨nd1,nd2,nd3⟩:=nodup_app (show (bs B++([a1]++ts)).Nodup from nd)
  have fr1:=free_sub fr (show ∀ a∈bs B++[a1],a∈bs B++([a1]++ts) from sub_app)
  refine at_run (X:=X_bFF it c hh kk ct fs ft k kt o1 o2 o3 o4 (strValues ps) pe es (txS y1) (strValues ps1) pe1 (txS y2) (strValues ps2) pe2 (refs ts) (sp x.1) wat (lS x.2) mat (lS y1.2) (lS y2.2)) (J:=pick (bs B++[a1]) 0) (cs:=bFF_cs w.params it c hh kk ct fs ft k kt o1 o2 o3 o4 (strValues ps) pe es (txS y1) (strValues ps1) pe1 (txS y2) (strValues ps2) pe2 (refs ts) (sp x.1) wat (lS x.2) mat (lS y1.2) (lS y2.2) (row1 w) (row2 w)) (ns:=[23,19]) (ts:=[5,0,9,11,33,4,21]) (va_bFF w (H1 _ _ _ _ _ (by rw [refs_len];omega)) (fun t=>H2 _ _ _ _ _ (by rw [refs_len];omega)) r.l1 r.l2 r.n1 r.n2 r.n3 r.n4 r.m1 r.j1 r.d1 r.a1 r.q1 (by show (ps2.map _).length≤_;rw [List.length_map];omega) (row1 w) (row2 w)) rfl rfl (by decide) (show ∀ j∈([23,19]:List Nat),13≤j by decide) (run_bFF it c hh kk ct fs ft k kt o1 o2 o3 o4 (strValues ps) pe es (txS y1) (strValues ps1) pe1 (txS y2) (strValues ps2) pe2 (refs ts) (sp x.1) wat (lS x.2) mat (lS y1.2) (lS y2.2) w.params (row1 w) (row2 w)) rfl rfl sA hg (I.has (tl:=[a1]) (has_cons.mpr ⟨e1,rfl⟩)) nd1 fr1 ?_
  rintro r' s' ⟨μ,θ,E⟩
  have res:r'=.ok .next:=E.res
  subst res
  have hμ:∀ j,j<12→μ j=B j:=fun j hj=>(E.agree j (show j<13 by omega)).trans (pick_bs B _ j hj)
  have post:Has s'.heap (bs B++[a1]) ([frL hh kk (μ 1) (μ 3) ct ⟨#[]⟩ (θ 0) [.int (k:Nat) kt,.str (txS y1) (θ 1),.str (txS y2) (θ 5),.ref (μ 13),.int ((((txS y1).length:Int)+((txS y2).length:Int))-((lS y1.2).length:Int)-((lS y2.2).length:Int)) (θ 6)] 9,accO (μ 2) (refs ts++[.ref (μ 14)]) ((es+1+1)+1+1),adO c]++st8 c μ++[lst (strValues ps2++[.str (sp ((((txS y1).length:Int)+((txS y2).length:Int))-((lS y1.2).length:Int)-((lS y2.2).length:Int)).toNat++qd (jn k y1 y2)) (θ 4)]) (pe2+1)]++[tupO [.str (sp x.1) wat,.str (lS x.2) mat]]):=E.post
  rw [st8_congr hμ,hμ 1 (by decide),hμ 2 (by decide),hμ 3 (by decide),num_eq,sv_push] at post
  obtain ⟨I2,hT2⟩:=At.of post
  have nw:Has s'.heap [μ 13,μ 14] [lst [.str (lS y1.2) (θ 2),.str (lS y2.2) (θ 3)] 0,tupO [.str (sp x.1) wat,.str (lS x.2) mat]]:=E.new
  have nb:μ 13≠μ 14:=fun z=>absurd (E.inj 0 1 (show 0<2 by decide) (show 1<2 by decide) z) (by decide)
  have f1:s.heap.objs.size≤μ 14:=E.fresh 1 (show 1<2 by decide)
  obtain ⟨w1,w2⟩:=has_cons.mp nw
  obtain ⟨w2,_⟩:=has_cons.mp w2
  have f0:s.heap.objs.size≤μ 13:=E.fresh 0 (show 0<2 by decide)
  have af:After (gl w.params) (bs B++[a1]) s s':=E.after
  have T':Tups s'.heap ts p:=T.keep fun a ha o e=>af.keep a o e (nd3 a ha)
  exact K s' ⟨(after_less af (has_cons.mpr ⟨e1,show Has s.heap [] [] from rfl⟩) hT2),kk,⟨#[]⟩,θ 0,ps2++[(sp (y1.1+y2.1:Nat)++qd (jn k y1 y2),θ 4)],pe2+1,((es+1+1)+1+1),((μ 14)::ts),θ 1,θ 5,θ 6,μ 13,θ 2,θ 3,rfl,(by rw [refs_cons];exact I2),front_push F2 (glue_tx k y1 y2).symm,front_nil F2,(.cons wat mat w2 T'),w1,f0,(fun a ha=>by
      rcases mQ ha with rfl | ha
      · exact .inr ⟨f1,fun z=>nb z.symm⟩
      · exact .inl (by simp only [List.mem_cons];exact Or.inr ha)),(List.nodup_cons.mpr ⟨fun hm=>(by
      have:∀ {as:List Addr} {xs:List Tx},Tups s.heap as xs→∀ a∈as,a<s.heap.objs.size:=fun H=>by
        induction H with
        | nil=>intro a ha;cases ha
        | cons _ _ e _ ih =>
          intro a ha
          rcases mQ ha with rfl | ha
          · exact Heap.lt_size e
          · exact ih a ha
      exact absurd (this T _ hm) (Nat.not_lt.mpr f1)),nd2⟩)⟩
theorem body_EE {w:World}{A:Around}{c:Lx}{B:Nu}{it ct k kt:Nat}{hh:Nat→Int}{kk:Nat→Nat}{fs:Str}{ft:Nat}{o1 o2 o3 o4:Value}{ps:List (Str×Tok)}{pe es:Nat}{y1 y2:Tx}{q:List Tx}{s:Shared}{Q:Flow→Shared→Prop}{E:Value→Shared→Prop}
    (sA:Small A 390) (hg:∀ a o,gl w.params a=some o→s.heap.get? a=some o) (I:At c B (frL hh kk (B 1) (B 3) ct fs ft [.int (k:Nat) kt,o1,o2,o3,o4] 9) (accO (B 2) (refs ([])) es) (lst (strValues ps) pe) s) (T:Tups s.heap ([]) ([])) (F:Front fs ps (y1::y2::q))
    (nd:(bs B++([])).Nodup) (fr:∀ a∈bs B++([]),gl w.params a=none∧183≤a) (hq:∀ y∈(y1::y2::q),OkT k y) (hk:k≤4) (hql:((y1::y2::q)).length<90) 
    (K:∀ s',Behind w c B ct k kt y1 y2 hh (fun z=>z=kk) [] q ([]) s s'→Q .next s') :
    wpAt (model prg w) A (.forLoop llFor.1 (.ref it) llFor.2 [] (llE (B 0))) (execs llFor.2 (llE (B 0))) Q E s:=by
  have hsl:=sizeLine_eq
  have hy1:OkT k y1:=hq y1 mS
  have hy2:OkT k y2:=hq y2 (mO mS)
  have hq2:∀ y∈q,OkT k y:=fun y hy=>hq y (mO (mO hy))
  have hl0:q.length<80+10:=by simp only [List.length_cons] at hql;omega
  obtain ⟨ps1,pe1,H1,F1⟩:=lt_E (w:=w) (c:=c) F hy1 (by simp only [List.length_cons] at hql ⊢;omega) pe
  obtain ⟨ps2,pe2,H2,F2⟩:=lt_E (w:=w) (c:=c) F1 hy2 (by simp only [List.length_cons] at hql ⊢;omega) pe1
  have hp2:=len_ps F2
  simp only [List.length_cons] at hp2 hql
  have r:Rest w k y1 y2:=rest_ok hy1 hy2 hk
  rw [show refs []=[] from rfl] at I
  rw [List.append_nil] at nd fr
  have nd1:=nd
  have fr1:=fr
  refine at_run (X:=X_bEE it c hh kk ct fs ft k kt o1 o2 o3 o4 (strValues ps) pe es (txS y1) (strValues ps1) pe1 (txS y2) (strValues ps2) pe2 (lS y1.2) (lS y2.2)) (J:=pick (bs B) 0) (cs:=bEE_cs w.params it c hh kk ct fs ft k kt o1 o2 o3 o4 (strValues ps) pe es (txS y1) (strValues ps1) pe1 (txS y2) (strValues ps2) pe2 (lS y1.2) (lS y2.2) (row1 w) (row2 w)) (ns:=[20]) (ts:=[5,0,9,11,33,4,21]) (va_bEE w (H1 _ _) (fun t=>H2 _ _) r.l1 r.l2 r.n1 r.n2 r.n3 r.n4 r.m1 r.j1 r.d1 r.a1 r.q1 (by show (ps2.map _).length≤_;rw [List.length_map];omega) (row1 w) (row2 w)) rfl rfl (by decide) (show ∀ j∈([20]:List Nat),12≤j by decide) (run_bEE it c hh kk ct fs ft k kt o1 o2 o3 o4 (strValues ps) pe es (txS y1) (strValues ps1) pe1 (txS y2) (strValues ps2) pe2 (lS y1.2) (lS y2.2) w.params (row1 w) (row2 w)) rfl rfl sA hg (I.has0) nd1 fr1 ?_
  rintro r' s' ⟨μ,θ,E⟩
  have res:r'=.ok .next:=E.res
  subst res
  have hμ:∀ j,j<12→μ j=B j:=fun j hj=>(E.agree j (show j<12 by omega)).trans ((pick_bs B [] j hj))
  have post:Has s'.heap (bs B) ([frL hh kk (μ 1) (μ 3) ct ⟨#[]⟩ (θ 0) [.int (k:Nat) kt,.str (txS y1) (θ 1),.str (txS y2) (θ 5),.ref (μ 12),.int ((((txS y1).length:Int)+((txS y2).length:Int))-((lS y1.2).length:Int)-((lS y2.2).length:Int)) (θ 6)] 9,accO (μ 2) [] es,adO c]++st8 c μ++[lst (strValues ps2++[.str (sp ((((txS y1).length:Int)+((txS y2).length:Int))-((lS y1.2).length:Int)-((lS y2.2).length:Int)).toNat++qd (jn k y1 y2)) (θ 4)]) (pe2+1)]):=E.post
  rw [st8_congr hμ,hμ 1 (by decide),hμ 2 (by decide),hμ 3 (by decide),num_eq,sv_push] at post
  have I2:=At.of0 post
  have nw:Has s'.heap [μ 12] [lst [.str (lS y1.2) (θ 2),.str (lS y2.2) (θ 3)] 0]:=E.new
  obtain ⟨w1,_⟩:=has_cons.mp nw
  have f0:s.heap.objs.size≤μ 12:=E.fresh 0 (show 0<1 by decide)
  have af:After (gl w.params) (bs B) s s':=E.after
  exact K s' ⟨af,kk,⟨#[]⟩,θ 0,ps2++[(sp (y1.1+y2.1:Nat)++qd (jn k y1 y2),θ 4)],pe2+1,es,[],θ 1,θ 5,θ 6,μ 12,θ 2,θ 3,rfl,I2,front_push F2 (glue_tx k y1 y2).symm,front_nil F2,.nil,w1,f0,(fun a ha=>by cases ha),List.nodup_nil⟩
theorem at_head {w:World}{X:Spec}{A:Around}{s:Shared}{J:Nu}{c:Code}{target:Expr}{it:Value}{env:Env}{fuel:Nat}{hs:List Nat}{cs:List Ev}{ns ts:List Nat}{t:Nu→Sem Fin}{Q:Flow→Shared→Prop}{E:Value→Shared→Prop}(V:ValidAll prg w (gl w.params) cs)(hk:ns.length=X.k)(ht:ts.length=X.nt)(hn:ns.Nodup)(hge:∀ j∈ns,X.n0≤j)
    (run:∀ J Z,runL X t w.params (row1 w) (row2 w) fuel hs cs ns (up J) Z=runR X t w.params (row1 w) (row2 w) fuel hs cs ns ts (up J) Z)
    (et:t (trunc X.n0 J)=headD target it env) (ec:X.code (trunc X.n0 J)=c)
    (sA:Small A X.d) (hg:∀ a o,gl w.params a=some o→s.heap.get? a=some o) (hp:Has s.heap (rng X.n0 J) (X.pre (trunc X.n0 J))) (hnd:(rng X.n0 J).Nodup) (hout:∀ a∈rng X.n0 J,gl w.params a=none∧183≤a)
    (K:∀ r s',(∃ μ θ,Ends w X J s r s' μ θ)→match r with | .ok v=>Q v s' | .error e=>E e s'):wpAt (model prg w) A c (headM target it env) Q E s:=by
  refine at_of_ownF ?_
  have key:=wp_run (w:=w) (X:=X) (t:=t) (fuel:=fuel) (hs:=hs) (cs:=cs) (ns:=ns) (ts:=ts) V hk ht hn hge run (J:=J) (A:={ A with frames:=none,guards:=none }) (s:=s) sA hg hp hnd hout
    (R:=fun r s'=>match r with | .ok v=>Q v s' | .error e=>E e s') K
  rw [et,ec,← head_eq] at key
  exact key
noncomputable def h4 (P:Params)(hh:Nat→Int):Nat→Int:=fun j=>match j with | 4=>hsh P sK | j=>hh j
noncomputable def k4 (kk:Nat→Nat)(e:Nat):Nat→Nat:=fun j=>match j with | 4=>e | j=>kk j
noncomputable abbrev llC (B:Nu)(it:Addr):Code:=.forLoop llFor.1 (.ref it) llFor.2 [] (llE (B 0))
section
variable {w:World}{A:Around}{s:Shared}{B:Nu}{it ct:Nat}{hh:Nat→Int}{kk:Nat→Nat}{fs:Str}{ft:Nat}{Q:Flow→Shared→Prop}{E:Value→Shared→Prop}
theorem head_0 (sA:Small A 390)(hg:∀ a o,gl w.params a=some o→s.heap.get? a=some o)(h0:s.heap.get? (B 0)=some (frL hh kk (B 1) (B 3) ct fs ft [] 4))(h1:s.heap.get? it=some (itR 0 5))(nd:[B 0,it].Nodup)(fr:∀ a∈[B 0,it],gl w.params a=none∧183≤a)
    (K:∀ s' e kt,After (gl w.params) [B 0,it] s s'→s'.heap.get? (B 0)=some (frL (h4 w.params hh) (k4 kk e) (B 1) (B 3) ct fs ft [.int (0:Nat) kt] 5)→s'.heap.get? it=some (itR 1 4)→Q .next s') :
    wpAt (model prg w) A (llC B it) (headM llFor.1 (.ref it) (llE (B 0))) Q E s:=by
  refine at_head (X:=X_hd0 w.params hh kk ct fs ft (B 1) (B 3)) (J:=pick [B 0,it] 0) (cs:=hd0_cs w.params hh kk ct fs ft (B 1) (B 3) (row1 w) (row2 w)) (ns:=[]) (ts:=[0,1]) (va_hd0 w (row1 w) (row2 w)) rfl rfl List.nodup_nil (fun _ h=>by cases h) (run_hd0 hh kk ct fs ft (B 1) (B 3) w.params (row1 w) (row2 w)) rfl rfl sA hg (has_cons.mpr ⟨h0,has_cons.mpr ⟨h1,rfl⟩⟩) nd fr ?_
  rintro r' s' ⟨μ,θ,E⟩
  have res:r'=.ok .next:=E.res
  subst res
  have post:Has s'.heap [B 0,it] [frL (h4 w.params hh) (k4 kk (θ 1)) (B 1) (B 3) ct fs ft [.int (0:Nat) (θ 0)] 5,itR 1 4]:=E.post
  obtain ⟨p0,p1⟩:=has_cons.mp post
  exact K s' _ _ E.after p0 (has_cons.mp p1).1
theorem head_1 {o0 o1 o2 o3 o4:Value}(sA:Small A 390)(hg:∀ a o,gl w.params a=some o→s.heap.get? a=some o)(h0:s.heap.get? (B 0)=some (frL hh kk (B 1) (B 3) ct fs ft [o0,o1,o2,o3,o4] 9))(h1:s.heap.get? it=some (itR 1 4))(nd:[B 0,it].Nodup)(fr:∀ a∈[B 0,it],gl w.params a=none∧183≤a)
    (K:∀ s' kt,After (gl w.params) [B 0,it] s s'→s'.heap.get? (B 0)=some (frL hh kk (B 1) (B 3) ct fs ft [.int (1:Nat) kt,o1,o2,o3,o4] 9)→s'.heap.get? it=some (itR 2 3)→Q .next s') :
    wpAt (model prg w) A (llC B it) (headM llFor.1 (.ref it) (llE (B 0))) Q E s:=by
  refine at_head (X:=X_hd1 hh kk ct fs ft (B 1) (B 3) o0 o1 o2 o3 o4) (J:=pick [B 0,it] 0) (cs:=hd1_cs w.params hh kk ct fs ft (B 1) (B 3) o0 o1 o2 o3 o4 (row1 w) (row2 w)) (ns:=[]) (ts:=[0]) (va_hd1 w (row1 w) (row2 w)) rfl rfl List.nodup_nil (fun _ h=>by cases h) (run_hd1 hh kk ct fs ft (B 1) (B 3) o0 o1 o2 o3 o4 w.params (row1 w) (row2 w)) rfl rfl sA hg (has_cons.mpr ⟨h0,has_cons.mpr ⟨h1,rfl⟩⟩) nd fr ?_
  rintro r' s' ⟨μ,θ,E⟩
  have res:r'=.ok .next:=E.res
  subst res
  have post:Has s'.heap [B 0,it] [frL hh kk (B 1) (B 3) ct fs ft [.int (1:Nat) (θ 0),o1,o2,o3,o4] 9,itR 2 3]:=E.post
  obtain ⟨p0,p1⟩:=has_cons.mp post
  exact K s' _ E.after p0 (has_cons.mp p1).1
theorem head_2 {o0 o1 o2 o3 o4:Value}(sA:Small A 390)(hg:∀ a o,gl w.params a=some o→s.heap.get? a=some o)(h0:s.heap.get? (B 0)=some (frL hh kk (B 1) (B 3) ct fs ft [o0,o1,o2,o3,o4] 9))(h1:s.heap.get? it=some (itR 2 3))(nd:[B 0,it].Nodup)(fr:∀ a∈[B 0,it],gl w.params a=none∧183≤a)
    (K:∀ s' kt,After (gl w.params) [B 0,it] s s'→s'.heap.get? (B 0)=some (frL hh kk (B 1) (B 3) ct fs ft [.int (2:Nat) kt,o1,o2,o3,o4] 9)→s'.heap.get? it=some (itR 3 2)→Q .next s') :
    wpAt (model prg w) A (llC B it) (headM llFor.1 (.ref it) (llE (B 0))) Q E s:=by
  refine at_head (X:=X_hd2 hh kk ct fs ft (B 1) (B 3) o0 o1 o2 o3 o4) (J:=pick [B 0,it] 0) (cs:=hd2_cs w.params hh kk ct fs ft (B 1) (B 3) o0 o1 o2 o3 o4 (row1 w) (row2 w)) (ns:=[]) (ts:=[0]) (va_hd2 w (row1 w) (row2 w)) rfl rfl List.nodup_nil (fun _ h=>by cases h) (run_hd2 hh kk ct fs ft (B 1) (B 3) o0 o1 o2 o3 o4 w.params (row1 w) (row2 w)) rfl rfl sA hg (has_cons.mpr ⟨h0,has_cons.mpr ⟨h1,rfl⟩⟩) nd fr ?_
  rintro r' s' ⟨μ,θ,E⟩
  have res:r'=.ok .next:=E.res
  subst res
  have post:Has s'.heap [B 0,it] [frL hh kk (B 1) (B 3) ct fs ft [.int (2:Nat) (θ 0),o1,o2,o3,o4] 9,itR 3 2]:=E.post
  obtain ⟨p0,p1⟩:=has_cons.mp post
  exact K s' _ E.after p0 (has_cons.mp p1).1
theorem head_3 {o0 o1 o2 o3 o4:Value}(sA:Small A 390)(hg:∀ a o,gl w.params a=some o→s.heap.get? a=some o)(h0:s.heap.get? (B 0)=some (frL hh kk (B 1) (B 3) ct fs ft [o0,o1,o2,o3,o4] 9))(h1:s.heap.get? it=some (itR 3 2))(nd:[B 0,it].Nodup)(fr:∀ a∈[B 0,it],gl w.params a=none∧183≤a)
    (K:∀ s' kt,After (gl w.params) [B 0,it] s s'→s'.heap.get? (B 0)=some (frL hh kk (B 1) (B 3) ct fs ft [.int (3:Nat) kt,o1,o2,o3,o4] 9)→s'.heap.get? it=some (itR 4 1)→Q .next s') :
    wpAt (model prg w) A (llC B it) (headM llFor.1 (.ref it) (llE (B 0))) Q E s:=by
  refine at_head (X:=X_hd3 hh kk ct fs ft (B 1) (B 3) o0 o1 o2 o3 o4) (J:=pick [B 0,it] 0) (cs:=hd3_cs w.params hh kk ct fs ft (B 1) (B 3) o0 o1 o2 o3 o4 (row1 w) (row2 w)) (ns:=[]) (ts:=[0]) (va_hd3 w (row1 w) (row2 w)) rfl rfl List.nodup_nil (fun _ h=>by cases h) (run_hd3 hh kk ct fs ft (B 1) (B 3) o0 o1 o2 o3 o4 w.params (row1 w) (row2 w)) rfl rfl sA hg (has_cons.mpr ⟨h0,has_cons.mpr ⟨h1,rfl⟩⟩) nd fr ?_
  rintro r' s' ⟨μ,θ,E⟩
  have res:r'=.ok .next:=E.res
  subst res
  have post:Has s'.heap [B 0,it] [frL hh kk (B 1) (B 3) ct fs ft [.int (3:Nat) (θ 0),o1,o2,o3,o4] 9,itR 4 1]:=E.post
  obtain ⟨p0,p1⟩:=has_cons.mp post
  exact K s' _ E.after p0 (has_cons.mp p1).1
theorem head_4 {o0 o1 o2 o3 o4:Value}(sA:Small A 390)(hg:∀ a o,gl w.params a=some o→s.heap.get? a=some o)(h0:s.heap.get? (B 0)=some (frL hh kk (B 1) (B 3) ct fs ft [o0,o1,o2,o3,o4] 9))(h1:s.heap.get? it=some (itR 4 1))(nd:[B 0,it].Nodup)(fr:∀ a∈[B 0,it],gl w.params a=none∧183≤a)
    (K:∀ s' kt,After (gl w.params) [B 0,it] s s'→s'.heap.get? (B 0)=some (frL hh kk (B 1) (B 3) ct fs ft [.int (4:Nat) kt,o1,o2,o3,o4] 9)→s'.heap.get? it=some (itR 5 0)→Q .next s') :
    wpAt (model prg w) A (llC B it) (headM llFor.1 (.ref it) (llE (B 0))) Q E s:=by
  refine at_head (X:=X_hd4 hh kk ct fs ft (B 1) (B 3) o0 o1 o2 o3 o4) (J:=pick [B 0,it] 0) (cs:=hd4_cs w.params hh kk ct fs ft (B 1) (B 3) o0 o1 o2 o3 o4 (row1 w) (row2 w)) (ns:=[]) (ts:=[0]) (va_hd4 w (row1 w) (row2 w)) rfl rfl List.nodup_nil (fun _ h=>by cases h) (run_hd4 hh kk ct fs ft (B 1) (B 3) o0 o1 o2 o3 o4 w.params (row1 w) (row2 w)) rfl rfl sA hg (has_cons.mpr ⟨h0,has_cons.mpr ⟨h1,rfl⟩⟩) nd fr ?_
  rintro r' s' ⟨μ,θ,E⟩
  have res:r'=.ok .next:=E.res
  subst res
  have post:Has s'.heap [B 0,it] [frL hh kk (B 1) (B 3) ct fs ft [.int (4:Nat) (θ 0),o1,o2,o3,o4] 9,itR 5 0]:=E.post
  obtain ⟨p0,p1⟩:=has_cons.mp post
  exact K s' _ E.after p0 (has_cons.mp p1).1
theorem head_5 {o0 o1 o2 o3 o4:Value}(sA:Small A 390)(hg:∀ a o,gl w.params a=some o→s.heap.get? a=some o)(h0:s.heap.get? (B 0)=some (frL hh kk (B 1) (B 3) ct fs ft [o0,o1,o2,o3,o4] 9))(h1:s.heap.get? it=some (itR 5 0))(nd:[B 0,it].Nodup)(fr:∀ a∈[B 0,it],gl w.params a=none∧183≤a)
    (K:∀ s',After (gl w.params) [B 0,it] s s'→s'.heap.get? (B 0)=some (frL hh kk (B 1) (B 3) ct fs ft [o0,o1,o2,o3,o4] 9)→s'.heap.get? it=some (itR 5 0)→Q .brk s') :
    wpAt (model prg w) A (llC B it) (headM llFor.1 (.ref it) (llE (B 0))) Q E s:=by
  refine at_head (X:=X_hd5 hh kk ct fs ft (B 1) (B 3) o0 o1 o2 o3 o4) (J:=pick [B 0,it] 0) (cs:=hd5_cs w.params hh kk ct fs ft (B 1) (B 3) o0 o1 o2 o3 o4 (row1 w) (row2 w)) (ns:=[]) (ts:=[]) (va_hd5 w (row1 w) (row2 w)) rfl rfl List.nodup_nil (fun _ h=>by cases h) (run_hd5 hh kk ct fs ft (B 1) (B 3) o0 o1 o2 o3 o4 w.params (row1 w) (row2 w)) rfl rfl sA hg (has_cons.mpr ⟨h0,has_cons.mpr ⟨h1,rfl⟩⟩) nd fr ?_
  rintro r' s' ⟨μ,θ,E⟩
  have res:r'=.ok .brk:=E.res
  subst res
  have post:Has s'.heap [B 0,it] [frL hh kk (B 1) (B 3) ct fs ft [o0,o1,o2,o3,o4] 9,itR 5 0]:=E.post
  obtain ⟨p0,p1⟩:=has_cons.mp post
  exact K s' E.after p0 (has_cons.mp p1).1
end
noncomputable def tk1 (p q:List Tx):Tx:=(take p q).1
noncomputable def tk2 (p q:List Tx):Tx:=(take (take p q).2.1 (take p q).2.2).1
noncomputable def tkp (p q:List Tx):List Tx:=(take (take p q).2.1 (take p q).2.2).2.1
noncomputable def tkq (p q:List Tx):List Tx:=(take (take p q).2.1 (take p q).2.2).2.2
theorem tups_cons {h:Heap}{ts:List Addr}{x:Tx}{p:List Tx}(T:Tups h ts (x::p)):∃ a ts',ts=a::ts':=by
  cases T with
  | cons _ _ _ _=>exact ⟨_,_,rfl⟩
theorem tups_nil {h:Heap}{ts:List Addr}(T:Tups h ts []):ts=[]:=by
  cases T;rfl
theorem tups_tail {h:Heap}{a:Addr}{ts:List Addr}{x:Tx}{p:List Tx}(T:Tups h (a::ts) (x::p)):Tups h ts p:=by
  cases T with
  | cons _ _ _ T=>exact T
theorem body_step {w:World}{A:Around}{c:Lx}{B:Nu}{it ct k kt:Nat}{hh:Nat→Int}{kk:Nat→Nat}{fs:Str}{ft:Nat}{o1 o2 o3 o4:Value}{ps:List (Str×Tok)}{pe es:Nat}{ts:List Addr}{p q:List Tx}{s:Shared}{Q:Flow→Shared→Prop}{E:Value→Shared→Prop}
    (sA:Small A 390) (hg:∀ a o,gl w.params a=some o→s.heap.get? a=some o) (I:At c B (frL hh kk (B 1) (B 3) ct fs ft [.int (k:Nat) kt,o1,o2,o3,o4] 9) (accO (B 2) (refs ts) es) (lst (strValues ps) pe) s) (T:Tups s.heap ts p) (F:Front fs ps q)
    (nd:(bs B++ts).Nodup) (fr:∀ a∈bs B++ts,gl w.params a=none∧183≤a) (hp:∀ x∈p,OkT k x) (hq:∀ y∈q,OkT k y) (hk:k≤4) (hpl:p.length<90) (hql:q.length<90) (h2:2≤p.length+q.length)
    (K:∀ s',Behind w c B ct k kt (tk1 p q) (tk2 p q) hh (fun z=>z=kk) (tkp p q) (tkq p q) ts s s'→Q .next s') :
    wpAt (model prg w) A (.forLoop llFor.1 (.ref it) llFor.2 [] (llE (B 0))) (execs llFor.2 (llE (B 0))) Q E s:=by
  unfold tk1 tk2 tkp tkq at K
  have htl:=T.len
  cases p with
  | nil =>
    obtain rfl:=tups_nil T
    match q,h2 with
    | y1::y2::q,_=>exact body_EE sA hg I T F nd fr hq hk hql K
  | cons x p =>
    obtain ⟨a1,ts,rfl⟩:=tups_cons T
    have hx:=hp x mS
    have T1:=tups_tail T
    cases q with
    | nil =>
      match p,h2 with
      | x2::p,_ =>
        obtain ⟨a2,ts,rfl⟩:=tups_cons T1
        have hx2:=hp x2 (mO mS)
        exact body_PP sA hg I T F nd fr hx hx2 hq hk hql (by simp only [List.length_cons] at htl hpl;omega) (fun y q' z=>by cases z) (fun y q' z=>by cases z) K
    | cons y1 q =>
      by_cases c1:y1.1<x.1
      · have e:take (x::p) (y1::q)=(y1,x::p,q):=if_pos c1
        rw [e] at K
        dsimp only at K
        cases q with
        | nil=>exact body_FP sA hg I T F nd fr hx hq hk hql (by simp only [List.length_cons] at htl hpl;omega) c1 (fun y q' z=>by cases z) K
        | cons y2 q =>
          by_cases c2:y2.1<x.1
          · have e2:take (x::p) (y2::q)=(y2,x::p,q):=if_pos c2
            rw [e2] at K
            exact body_FF sA hg I T F nd fr hx hq hk hql (by simp only [List.length_cons] at htl hpl;omega) c1 c2 K
          · have e2:take (x::p) (y2::q)=(x,p,y2::q):=if_neg c2
            rw [e2] at K
            exact body_FP sA hg I T F nd fr hx hq hk hql (by simp only [List.length_cons] at htl hpl;omega) c1 (fun y q' z=>by cases z;exact c2) K
      · have e:take (x::p) (y1::q)=(x,p,y1::q):=if_neg c1
        rw [e] at K
        dsimp only at K
        have cc:∀ y q',y1::q=y::q'→¬ y.1<x.1:=fun y q' z=>by cases z;exact c1
        cases p with
        | nil =>
          obtain rfl:=tups_nil T1
          exact body_PE sA hg I T F nd fr hx hq hk hql cc K
        | cons x2 p =>
          obtain ⟨a2,ts,rfl⟩:=tups_cons T1
          have hx2:=hp x2 (mO mS)
          by_cases c2:y1.1<x2.1
          · have e2:take (x2::p) (y1::q)=(y1,x2::p,q):=if_pos c2
            rw [e2] at K
            exact body_PF sA hg I T F nd fr hx hx2 hq hk hql (by simp only [List.length_cons] at htl hpl;omega) cc c2 K
          · have e2:take (x2::p) (y1::q)=(x2,p,y1::q):=if_neg c2
            rw [e2] at K
            exact body_PP sA hg I T F nd fr hx hx2 hq hk hql (by simp only [List.length_cons] at htl hpl;omega) cc (fun y q' z=>by cases z;exact c2) K
theorem take_len (p q:List Tx)(h:1≤p.length+q.length):(take p q).2.1.length+(take p q).2.2.length+1=p.length+q.length:=by
  cases p with
  | nil =>
    cases q with
    | nil=>simp at h
    | cons y q=>simp [take]
  | cons x p =>
    cases q with
    | nil=>simp [take]
    | cons y q =>
      by_cases c:y.1<x.1
      · rw [show take (x::p) (y::q)=(y,x::p,q) from if_pos c]
        simp only [List.length_cons];omega
      · rw [show take (x::p) (y::q)=(x,p,y::q) from if_neg c]
        simp only [List.length_cons];omega
theorem take_mem {P:Tx→Prop}(p q:List Tx)(h:1≤p.length+q.length)(hp:∀ x∈p,P x)(hq:∀ x∈q,P x):P (take p q).1∧(∀ x∈(take p q).2.1,P x)∧∀ x∈(take p q).2.2,P x:=by
  cases p with
  | nil =>
    cases q with
    | nil=>simp at h
    | cons y q=>exact ⟨hq y mS,hp,fun x hx=>hq x (mO hx)⟩
  | cons x p =>
    cases q with
    | nil=>exact ⟨hp x mS,fun y hy=>hp y (mO hy),hq⟩
    | cons y q =>
      by_cases c:y.1<x.1
      · rw [show take (x::p) (y::q)=(y,x::p,q) from if_pos c]
        exact ⟨hq y mS,hp,fun x hx=>hq x (mO hx)⟩
      · rw [show take (x::p) (y::q)=(x,p,y::q) from if_neg c]
        exact ⟨hp x mS,fun y hy=>hp y (mO hy),hq⟩
theorem tk_len (p q:List Tx)(h:2≤p.length+q.length):(tkp p q).length+(tkq p q).length+2=p.length+q.length:=by
  have h1:=take_len p q (by omega)
  have h2:=take_len (take p q).2.1 (take p q).2.2 (by omega)
  unfold tkp tkq
  omega
theorem tk_mem {P:Tx→Prop}(p q:List Tx)(h:2≤p.length+q.length)(hp:∀ x∈p,P x)(hq:∀ x∈q,P x):P (tk1 p q)∧P (tk2 p q)∧(∀ x∈tkp p q,P x)∧∀ x∈tkq p q,P x:=by
  have h1:=take_len p q (by omega)
  obtain ⟨a,b,c⟩:=take_mem p q (by omega) hp hq
  obtain ⟨a2,b2,c2⟩:=take_mem (take p q).2.1 (take p q).2.2 (by omega) b c
  exact ⟨a,a2,b2,c2⟩
theorem head_any {w:World}{A:Around}{s:Shared}{B:Nu}{it ct k:Nat}{hh:Nat→Int}{kk:Nat→Nat}{fs:Str}{ft:Nat}{Q:Flow→Shared→Prop}{E:Value→Shared→Prop}{o0 o1 o2 o3 o4:Value}(hk:1≤k)(hk4:k≤4)(sA:Small A 390)(hg:∀ a o,gl w.params a=some o→s.heap.get? a=some o)(h0:s.heap.get? (B 0)=some (frL hh kk (B 1) (B 3) ct fs ft [o0,o1,o2,o3,o4] 9))(h1:s.heap.get? it=some (itR k (5-k)))(nd:[B 0,it].Nodup)(fr:∀ a∈[B 0,it],gl w.params a=none∧183≤a)
    (K:∀ s' kt,After (gl w.params) [B 0,it] s s'→s'.heap.get? (B 0)=some (frL hh kk (B 1) (B 3) ct fs ft [.int (k:Nat) kt,o1,o2,o3,o4] 9)→s'.heap.get? it=some (itR (k+1) (5-(k+1)))→Q .next s') :
    wpAt (model prg w) A (llC B it) (headM llFor.1 (.ref it) (llE (B 0))) Q E s:=by
  match k,hk,hk4,h1,K with
  | 1,_,_,h1,K=>exact head_1 sA hg h0 h1 nd fr K
  | 2,_,_,h1,K=>exact head_2 sA hg h0 h1 nd fr K
  | 3,_,_,h1,K=>exact head_3 sA hg h0 h1 nd fr K
  | 4,_,_,h1,K=>exact head_4 sA hg h0 h1 nd fr K
theorem small_under {A:Around}{c:Code}{d d':Nat}(h:Small A d)(hc:c.isCaller=false)(hd:d+6≤d'):Small (A.under c) d':=by
  have hw:=weight_le hc
  have hu:=cUnits_le c
  have h1:=h.2.1
  have h2:=h.2.2
  exact ⟨h.1,by show A.depth+c.weight≤_;omega,by show A.units+c.cUnits≤_;omega⟩
theorem At.keep {c:Lx}{B:Nu}{fr fr' ac pb:Obj}{s s':Shared}{g:Addr→Option Obj}{as:List Addr}(h:At c B fr ac pb s)(k:After g as s s')(f:s'.heap.get? (B 0)=some fr')(hn:∀ a∈[B 1,B 2,B 3,B 4,B 5,B 6,B 7,B 8,B 9,B 10,B 11],a ∉ as):At c B fr' ac pb s' :=
  ⟨f,k.keep _ _ h.a (hn _ (by simp)),k.keep _ _ h.d (hn _ (by simp)),has_keep h.st fun b o hb e=>k.keep b o e (hn b (by
    have:∀ a∈bs8 B,a∈[B 1,B 2,B 3,B 4,B 5,B 6,B 7,B 8,B 9,B 10,B 11]:=fun a ha=>by
      have h1:a∈[B 1,B 2]++(bs8 B++[B 11]):=List.mem_append_right _ (List.mem_append_left _ ha)
      exact h1
    exact this b hb)),k.keep _ _ h.p (hn _ (by simp))⟩
structure LI (w:World)(c:Lx)(B:Nu)(it ct:Nat)(hh:Nat→Int)(kk:Nat→Nat)(s0:Shared)(j:Nat)(p q:List Tx)(l:Tx×Tx)(ts:List Addr)(s:Shared):Prop where
  glob:∀ a o,gl w.params a=some o→s.heap.get? a=some o
  after:After (gl w.params) (it::bs B) s0 s
  itr:s.heap.get? it=some (itR (j+1) (5-(j+1)))
  tups:Tups s.heap ts p
  tsn:ts.Nodup
  dis:∀ a∈ts,a ∉ it::bs B
  fre:∀ a∈ts,gl w.params a=none∧183≤a
  ex:∃ (e a b c' d:Nat) (fs:Str) (ft:Nat) (ps:List (Str×Tok)) (pe es t0 t1 t2 t3 bb u1 u2:Nat),
    At c B (frL (hOf w.params (h4 w.params hh)) (kOf (k4 kk e) a b c' d) (B 1) (B 3) ct fs ft [.int (j:Nat) t0,.str (txS l.1) t1,.str (txS l.2) t2,.ref bb,.int ((l.1.1+l.2.1:Nat):Int) t3] 9) (accO (B 2) (refs ts) es) (lst (strValues ps) pe) s ∧
    Front fs ps q∧(q.length≤1→fs=⟨#[]⟩)∧s.heap.get? bb=some (lst [.str (lS l.1.2) u1,.str (lS l.2.2) u2] 0)∧s0.heap.objs.size≤bb∧bb ∉ ts
theorem has_mem {h:Heap}:∀ {as:List Addr} {os:List Obj},Has h as os→∀ a∈as,a<h.objs.size
  | a::as,[],e,_,_=>by cases e
  | a::as,o::os,e,b,hb=>by
    obtain ⟨h1,h2⟩:=has_cons.mp e
    rcases mQ hb with rfl | hb
    · exact Heap.lt_size h1
    · exact has_mem h2 b hb
theorem tups_lt {h:Heap}{ts:List Addr}{p:List Tx}(T:Tups h ts p):∀ a∈ts,a<h.objs.size:=by
  induction T with
  | nil=>intro a ha;cases ha
  | cons _ _ e _ ih =>
    intro a ha
    rcases mQ ha with rfl | ha
    · exact Heap.lt_size e
    · exact ih a ha
section
variable {w:World}{A:Around}{c:Lx}{B:Nu}{it ct:Nat}{hh:Nat→Int}{kk:Nat→Nat}{s0:Shared}{R:Result→Shared→Prop}
theorem behind_next (nd:(it::bs B).Nodup){j kt:Nat}{x y:Tx}{e:Nat}{kkOk:(Nat→Nat)→Prop}(hkk:∀ z,kkOk z→∃ a b c' d,z=kOf (k4 kk e) a b c' d){p q:List Tx}{ts:List Addr}{s1 s2:Shared}
    (glob1:∀ a o,gl w.params a=some o→s1.heap.get? a=some o) (af1:After (gl w.params) (it::bs B) s0 s1) (itr1:s1.heap.get? it=some (itR (j+1) (5-(j+1)))) (lt1:∀ a∈it::bs B,a<s1.heap.objs.size) (tl1:∀ a∈ts,a<s1.heap.objs.size)
    (dis:∀ a∈ts,a ∉ it::bs B) (fre:∀ a∈ts,gl w.params a=none∧183≤a)
    (Bh:Behind w c B ct j kt x y (hOf w.params (h4 w.params hh)) kkOk p q ts s1 s2):∃ ts',LI w c B it ct hh kk s0 j p (q++[glue j x y]) (x,y) ts' s2:=by
  obtain ⟨af,kk2,fs,ft,ps,pe,es,ts',t1,t2,t3,b,u1,u2,hk2,I,F,fe,T,hb,hbs,hts,tn⟩:=Bh
  obtain ⟨a,b',c',d,rfl⟩:=hkk kk2 hk2
  obtain ⟨hit,_⟩:=List.nodup_cons.mp nd
  refine ⟨ts',⟨af.glob,after_trans af1 af fun z hz=>.inl (mO hz),af.keep _ _ itr1 hit,T,tn,fun z hz=>?_,fun z hz=>?_,e,a,b',c',d,fs,ft,ps,pe,es,kt,t1,t2,t3,b,u1,u2,I,F,fun hl=>fe (by rw [List.length_append,List.length_singleton] at hl;exact List.length_eq_zero_iff.mp (by omega)),hb,Nat.le_trans af1.size hbs,fun hm=>?_⟩⟩
  · rcases hts z hz with h | h
    · exact dis z h
    · intro hm
      exact absurd (lt1 z hm) (Nat.not_lt.mpr h.1)
  · rcases hts z hz with h | h
    · exact fre z h
    · refine ⟨?_,Nat.le_trans (gl_big glob1) h.1⟩
      cases q:gl w.params z with
      | none=>rfl
      | some o=>exact absurd (Heap.lt_size (glob1 z o q)) (Nat.not_lt.mpr h.1)
  · rcases hts b hm with h | h
    · exact absurd (tl1 b h) (Nat.not_lt.mpr hbs)
    · exact h.2 rfl
theorem sub01 (B:Nu)(it:Addr):∀ a∈[B 0,it],a∈it::bs B:=fun a ha=>by
  rcases mQ ha with rfl | ha
  · exact mO mS
  · rcases mQ ha with rfl | ha
    · exact List.mem_cons_self ..
    · cases ha
theorem nd01 {B:Nu}{it:Addr}(nd:(it::bs B).Nodup):[B 0,it].Nodup∧∀ a∈[B 1,B 2,B 3,B 4,B 5,B 6,B 7,B 8,B 9,B 10,B 11],a ∉ [B 0,it]:=by
  obtain ⟨h1,h2⟩:=List.nodup_cons.mp nd
  obtain ⟨h3,_⟩:=List.nodup_cons.mp h2
  have hne:B 0≠it:=fun z=>h1 (z▸List.mem_cons_self ..)
  have hne1:B 0 ∉ [it]:=fun hm=>by
    rcases mQ hm with h | h
    · exact hne h
    · cases h
  have hn0:it ∉ ([]:List Addr):=fun hm=>by cases hm
  refine ⟨List.nodup_cons.mpr ⟨hne1,List.nodup_cons.mpr ⟨hn0,List.nodup_nil⟩⟩,fun a ha hm=>?_⟩
  rcases mQ hm with rfl | hm
  · exact h3 ha
  · rcases mQ hm with rfl | hm
    · exact h1 (mO ha)
    · cases hm
theorem loop_step (sA:Small A 384)(nd:(it::bs B).Nodup)(fr:∀ a∈it::bs B,gl w.params a=none∧183≤a){j:Nat}(hj:j+1≤4){p q:List Tx}{l:Tx×Tx}{ts:List Addr}{s:Shared}(hp:∀ x∈p,OkT (j+1) x)(hq:∀ y∈q,OkT (j+1) y)(hpl:p.length<90)(hql:q.length<90)(h2:2≤p.length+q.length)
    (L:LI w c B it ct hh kk s0 j p q l ts s)
    (Kn:∀ ts' s',LI w c B it ct hh kk s0 (j+1) (tkp p q) (tkq p q++[glue (j+1) (tk1 p q) (tk2 p q)]) (tk1 p q,tk2 p q) ts' s'→codeAny (model prg w) A (llC B it) R s'):codeAny (model prg w) A (llC B it) R s:=by
  obtain ⟨glob,after,itr,tups,tsn,dis,fre,e,a,b,c',d,fs,ft,ps,pe,es,t0,t1,t2,t3,bb,u1,u2,I,F,fe,hb,hbs,hbt⟩:=L
  have sU:Small (A.under (llC B it)) 390:=small_under sA rfl (by decide)
  obtain ⟨n1,n2⟩:=nd01 nd
  refine for_code (x:=sK) (head_any (by omega) hj sU glob I.f itr n1 (free_sub fr (sub01 B it)) fun s1 kt af f1 it1=>?_)
  have I1:=I.keep af f1 n2
  have T1:=tups.keep fun z hz o e=>af.keep z o e fun hm=>dis z hz (sub01 B it z hm)
  have lt1:∀ z∈it::bs B,z<s1.heap.objs.size:=fun z hz=>by
    rcases mQ hz with rfl | hz
    · exact Heap.lt_size it1
    · exact has_mem I1.has0 z hz
  have nd2:(bs B++ts).Nodup:=List.nodup_append.mpr ⟨(List.nodup_cons.mp nd).2,tsn,fun x hx y hy z=>dis y hy (mO (z▸hx))⟩
  have fr2:∀ z∈bs B++ts,gl w.params z=none∧183≤z:=fun z hz=>by
    rcases List.mem_append.mp hz with h | h
    · exact fr z (mO h)
    · exact fre z h
  show wpAt _ _ _ _ _ _ s1
  refine body_step (p:=p) (q:=q) sU af.glob I1 T1 F nd2 fr2 hp hq hj hpl hql h2 fun s2 Bh=>?_
  obtain ⟨ts',L'⟩:=behind_next (hh:=hh) (kk:=kk) (e:=e) (j:=j+1) nd (fun z hz=>⟨a,b,c',d,hz⟩) af.glob (after_trans after af fun z hz=>.inl (sub01 B it z hz)) it1 lt1 (tups_lt T1) dis fre Bh
  exact Kn ts' s2 L'
end
noncomputable def turn (j:Nat)(pq:List Tx×List Tx):List Tx×List Tx:=(tkp pq.1 pq.2,tkq pq.1 pq.2++[glue j (tk1 pq.1 pq.2) (tk2 pq.1 pq.2)])
theorem turn_len (j:Nat){pq:List Tx×List Tx}(h:2≤pq.1.length+pq.2.length):(turn j pq).1.length+(turn j pq).2.length+1=pq.1.length+pq.2.length:=by
  have:=tk_len pq.1 pq.2 h
  unfold turn
  rw [List.length_append,List.length_singleton]
  omega
theorem turn_ok {j k:Nat}{pq:List Tx×List Tx}(h:2≤pq.1.length+pq.2.length)(hp:∀ x∈pq.1,OkT k x)(hq:∀ x∈pq.2,OkT k x):(∀ x∈(turn j pq).1,OkT (k+1) x)∧∀ x∈(turn j pq).2,OkT (k+1) x:=by
  obtain ⟨a,b,c,d⟩:=tk_mem (P:=OkT k) pq.1 pq.2 h hp hq
  refine ⟨fun x hx=>(c x hx).up,fun x hx=>?_⟩
  rcases List.mem_append.mp hx with h | h
  · exact (d x h).up
  · rw [List.mem_singleton.mp h]
    exact glue_ok a b j
noncomputable def t1 (p:List Tx):=turn 0 (p,[])
noncomputable def t2 (p:List Tx):=turn 1 (t1 p)
noncomputable def t3 (p:List Tx):=turn 2 (t2 p)
noncomputable def t4 (p:List Tx):=turn 3 (t3 p)
noncomputable def t5 (p:List Tx):=turn 4 (t4 p)
noncomputable def lst2 (pq:List Tx×List Tx):Tx×Tx:=(tk1 pq.1 pq.2,tk2 pq.1 pq.2)
structure Live (k n:Nat)(pq:List Tx×List Tx):Prop where
  p:∀ x∈pq.1,OkT k x
  q:∀ x∈pq.2,OkT k x
  n:pq.1.length+pq.2.length=n
theorem Live.turn {k n:Nat}{pq:List Tx×List Tx}(h:Live k (n+1) pq)(hn:1≤n)(j:Nat):Live (k+1) n (turn j pq):=by
  have h2:2≤pq.1.length+pq.2.length:=by rw [h.n];omega
  obtain ⟨a,b⟩:=turn_ok (j:=j) h2 h.p h.q
  refine ⟨a,b,?_⟩
  have:=turn_len j h2
  have:=h.n
  omega
noncomputable def lastOf (p:List Tx):Tx:=glue 4 (lst2 (t4 p)).1 (lst2 (t4 p)).2
theorem t5_eq {p:List Tx}(h:Live 5 1 (t5 p)):t5 p=([],[lastOf p]):=by
  have h1:=h.n
  have e:t5 p=(tkp (t4 p).1 (t4 p).2,tkq (t4 p).1 (t4 p).2++[lastOf p]):=rfl
  rw [e] at h1 ⊢
  rw [List.length_append,List.length_singleton] at h1
  rw [List.length_eq_zero_iff.mp (show (tkp (t4 p).1 (t4 p).2).length=0 by dsimp only at h1;omega),List.length_eq_zero_iff.mp (show (tkq (t4 p).1 (t4 p).2).length=0 by dsimp only at h1;omega)]
  rfl
section
variable {w:World}{A:Around}{c:Lx}{B:Nu}{it ct:Nat}{hh:Nat→Int}{kk:Nat→Nat}{s0:Shared}{R:Result→Shared→Prop}
structure LE (w:World)(c:Lx)(B:Nu)(it ct:Nat)(hh:Nat→Int)(kk:Nat→Nat)(s0:Shared)(l:Tx×Tx)(z:Tx)(s:Shared):Prop where
  after:After (gl w.params) (it::bs B) s0 s
  itr:s.heap.get? it=some (itR 5 0)
  ex:∃ (e a b c' d:Nat) (ft:Nat) (lt pe es t0 t1 t2 t3 bb u1 u2:Nat),
    At c B (frL (hOf w.params (h4 w.params hh)) (kOf (k4 kk e) a b c' d) (B 1) (B 3) ct ⟨#[]⟩ ft [.int (4:Nat) t0,.str (txS l.1) t1,.str (txS l.2) t2,.ref bb,.int ((l.1.1+l.2.1:Nat):Int) t3] 9) (accO (B 2) [] es) (lst [.str (txS z) lt] pe) s ∧
    s.heap.get? bb=some (lst [.str (lS l.1.2) u1,.str (lS l.2.2) u2] 0)∧s0.heap.objs.size≤bb
theorem loop_end (sA:Small A 384)(nd:(it::bs B).Nodup)(fr:∀ a∈it::bs B,gl w.params a=none∧183≤a){l:Tx×Tx}{z:Tx}{ts:List Addr}{s:Shared}
    (lt0:∀ a∈it::bs B,a<s0.heap.objs.size) (hz:z.2≠[]) (L:LI w c B it ct hh kk s0 4 [] [z] l ts s) (K:∀ s',LE w c B it ct hh kk s0 l z s'→R (.ok .next) s'):codeAny (model prg w) A (llC B it) R s:=by
  obtain ⟨glob,after,itr,tups,tsn,dis,fre,e,a,b,c',d,fs,ft,ps,pe,es,t0,t1,t2,t3,bb,u1,u2,I,F,fe,hb,hbs,hbt⟩:=L
  have sU:Small (A.under (llC B it)) 390:=small_under sA rfl (by decide)
  obtain ⟨n1,n2⟩:=nd01 nd
  obtain rfl:=tups_nil tups
  obtain rfl:=fe (by simp)
  refine for_code (x:=sK) (head_5 sU glob I.f itr n1 (free_sub fr (sub01 B it)) fun s1 af f1 it1=>?_)
  have I1:=I.keep af f1 n2
  refine block_nil (K s1 ⟨after_trans after af fun z hz=>.inl (sub01 B it z hz),it1,?_⟩)
  have hps:∃ lt,ps=[(txS z,lt)]:=by
    rcases F with ⟨_,h2⟩ | ⟨y,q',h3,h4,_⟩
    · match ps,h2 with
      | [(v,t)],h2=>exact ⟨t,by rw [show v=txS z from by simpa using h2]⟩
    · exfalso
      obtain ⟨rfl,rfl⟩:=List.cons.inj h3
      refine hz ?_
      have h5:(txS z).cps.toList=[]:=by rw [← h4]
      rw [tx_list] at h5
      exact (List.append_eq_nil_iff.mp h5).2
  obtain ⟨lt,rfl⟩:=hps
  have hb1:bb ∉ [B 0,it]:=fun hm=>absurd (lt0 bb (sub01 B it bb hm)) (Nat.not_lt.mpr hbs)
  exact ⟨e,a,b,c',d,ft,lt,pe,es,t0,t1,t2,t3,bb,u1,u2,I1,af.keep _ _ hb hb1,hbs⟩
theorem loop_all (sA:Small A 384)(nd:(it::bs B).Nodup)(fr:∀ a∈it::bs B,gl w.params a=none∧183≤a){p:List Tx}{ts:List Addr}{ft pe es:Nat}(hp:∀ x∈p,OkT 0 x)(h6:p.length=6)
    (hg:∀ a o,gl w.params a=some o→s0.heap.get? a=some o) (I:At c B (frL hh kk (B 1) (B 3) ct ⟨#[]⟩ ft [] 4) (accO (B 2) (refs ts) es) (lst [] pe) s0) (h1:s0.heap.get? it=some (itR 0 5)) (T:Tups s0.heap ts p) (tsn:ts.Nodup) (dis:∀ a∈ts,a ∉ it::bs B) (fre:∀ a∈ts,gl w.params a=none∧183≤a)
    (K:∀ s',LE w c B it ct hh kk s0 (lst2 (t4 p)) (lastOf p) s'→R (.ok .next) s'):codeAny (model prg w) A (llC B it) R s0:=by
  have sU:Small (A.under (llC B it)) 390:=small_under sA rfl (by decide)
  obtain ⟨n1,n2⟩:=nd01 nd
  have L0:Live 0 6 (p,[]):=⟨hp,fun x hx=>(by cases hx),(show p.length+0=6 from h6)⟩
  have L1:Live 1 5 (t1 p):=L0.turn (by decide) 0
  have L2:Live 2 4 (t2 p):=L1.turn (by decide) 1
  have L3:Live 3 3 (t3 p):=L2.turn (by decide) 2
  have L4:Live 4 2 (t4 p):=L3.turn (by decide) 3
  have L5:Live 5 1 (t5 p):=L4.turn (by decide) 4
  have lt0:∀ z∈it::bs B,z<s0.heap.objs.size:=fun z hz=>by
    rcases mQ hz with rfl | hz
    · exact Heap.lt_size h1
    · exact has_mem I.has0 z hz
  have e5:=t5_eq L5
  have step:∀ j,j+1≤4→∀ (pq:List Tx×List Tx) (n:Nat) (hn:1≤n) (hn6:n≤6) (Lv:Live (j+1) (n+1) pq) (l:Tx×Tx) (ts:List Addr) (s:Shared),LI w c B it ct hh kk s0 j pq.1 pq.2 l ts s→(∀ ts' s',LI w c B it ct hh kk s0 (j+1) (turn (j+1) pq).1 (turn (j+1) pq).2 (lst2 pq) ts' s'→codeAny (model prg w) A (llC B it) R s')→codeAny (model prg w) A (llC B it) R s:=fun j hj pq n hn hn6 Lv l ts s L Kn=>by
    have:=Lv.n
    exact loop_step sA nd fr hj Lv.p Lv.q (by omega) (by omega) (by omega) L Kn
  refine for_code (x:=sK) (head_0 sU hg I.f h1 n1 (free_sub fr (sub01 B it)) fun s1 e kt af f1 it1=>?_)
  have I1:=I.keep af f1 n2
  have T1:=T.keep fun z hz o e=>af.keep z o e fun hm=>dis z hz (sub01 B it z hm)
  have lt1:∀ z∈it::bs B,z<s1.heap.objs.size:=fun z hz=>by
    rcases mQ hz with rfl | hz
    · exact Heap.lt_size it1
    · exact has_mem I1.has0 z hz
  have nd2:(bs B++ts).Nodup:=List.nodup_append.mpr ⟨(List.nodup_cons.mp nd).2,tsn,fun x hx y hy z=>dis y hy (mO (z▸hx))⟩
  have fr2:∀ z∈bs B++ts,gl w.params z=none∧183≤z:=fun z hz=>by
    rcases List.mem_append.mp hz with h | h
    · exact fr z (mO h)
    · exact fre z h
  have F0:Front (⟨#[]⟩:Str) ([]:List (Str×Tok)) []:=.inl ⟨rfl,rfl⟩
  show wpAt _ _ _ _ _ _ s1
  match p,h6,hp,T1 with
  | x::x2::p,h6,hp,T1 =>
    obtain ⟨a1,ts,rfl⟩:=tups_cons T1
    obtain ⟨a2,ts,rfl⟩:=tups_cons (tups_tail T1)
    have htl:=T1.len
    simp only [List.length_cons] at htl h6
    refine body_0PP (ps:=[]) sU af.glob I1 T1 F0 nd2 fr2 (hp x mS) (hp x2 (mO mS)) (fun y hy=>by cases hy) (by decide) (by decide) (by omega) (fun y q' z=>by cases z) (fun y q' z=>by cases z) fun s2 Bh=>?_
    obtain ⟨ts',L'⟩:=behind_next (hh:=hh) (kk:=kk) (e:=e) (j:=0) nd (fun z hz=>hz) af.glob (after_more af (sub01 B it)) it1 lt1 (tups_lt T1) dis fre Bh
    refine step 0 (by decide) (t1 (x::x2::p)) 4 (by decide) (by decide) L1 _ ts' s2 L' fun ts' s' L'=>?_
    refine step 1 (by decide) (t2 (x::x2::p)) 3 (by decide) (by decide) L2 _ ts' s' L' fun ts' s' L'=>?_
    refine step 2 (by decide) (t3 (x::x2::p)) 2 (by decide) (by decide) L3 _ ts' s' L' fun ts' s' L'=>?_
    refine step 3 (by decide) (t4 (x::x2::p)) 1 (by decide) (by decide) L4 _ ts' s' L' fun ts' s' L'=>?_
    have L'':LI w c B it ct hh kk s0 4 (t5 (x::x2::p)).1 (t5 (x::x2::p)).2 (lst2 (t4 (x::x2::p))) ts' s':=L'
    rw [e5] at L''
    have hz:=L5.q (lastOf (x::x2::p)) (by rw [e5];exact List.mem_singleton.mpr rfl)
    exact loop_end sA nd fr lt0 hz.ne L'' K
end
noncomputable abbrev six (xx:Nat→Tx):List Tx:=[xx 0,xx 1,xx 2,xx 3,xx 4,xx 5]
noncomputable abbrev tup1 (xx:Nat→Tx)(wt mt:Nat→Nat)(j:Nat):Obj:=tupO [.str (sp (xx j).1) (wt j),.str (lS (xx j).2) (mt j)]
noncomputable abbrev tup6 (xx:Nat→Tx)(wt mt:Nat→Nat):List Obj:=[tup1 xx wt mt 0,tup1 xx wt mt 1,tup1 xx wt mt 2,tup1 xx wt mt 3,tup1 xx wt mt 4,tup1 xx wt mt 5]
noncomputable abbrev r6 (J:Nu)(b:Nat):List Value:=[.ref (J (b+5)),.ref (J (b+4)),.ref (J (b+3)),.ref (J (b+2)),.ref (J (b+1)),.ref (J b)]
noncomputable def X_loop (Pw:Params)(c:Lx)(hh:Nat→Int)(kk:Nat→Nat)(ct ft pe es:Nat)(xx:Nat→Tx)(wt mt:Nat→Nat):Spec :=
  { n0:=19,k:=1,nt:=15,d:=384,code:=fun J=>llC J (J 12),
    pre:=fun J=>[frL hh kk (J 1) (J 3) ct ⟨#[]⟩ ft [] 4,accO (J 2) (r6 J 13) es,adO c]++st8 c J++[lst [] pe]++([itR 0 5]++tup6 xx wt mt),
    res:=fun J Z=>.ok .next,
    post:=fun J Z=>[frL (hOf Pw (h4 Pw hh)) (kOf (k4 kk (Z 0)) (Z 1) (Z 2) (Z 3) (Z 4)) (J 1) (J 3) ct ⟨#[]⟩ (Z 5) [.int (4:Nat) (Z 6),.str (txS (lst2 (t4 (six xx))).1) (Z 7),.str (txS (lst2 (t4 (six xx))).2) (Z 8),.ref (J 19),.int (((lst2 (t4 (six xx))).1.1+(lst2 (t4 (six xx))).2.1:Nat):Int) (Z 9)] 9,accO (J 2) [] (Z 10),adO c]++st8 c J++[lst [.str (txS (lastOf (six xx))) (Z 11)] (Z 12)]++([itR 5 0]++tup6 xx wt mt),
    new:=fun J Z=>[lst [.str (lS (lst2 (t4 (six xx))).1.2) (Z 13),.str (lS (lst2 (t4 (six xx))).2.2) (Z 14)] 0] }
theorem ok_loop {w:World}{c:Lx}{hh:Nat→Int}{kk:Nat→Nat}{ct ft pe es:Nat}{xx:Nat→Tx}{wt mt:Nat→Nat}(hx:∀ x∈six xx,OkT 0 x):(X_loop w.params c hh kk ct ft pe es xx wt mt).Ok w:=by
  refine ok_of_con fun J A s sA hg hp hnd hout=>?_
  have hp1:Has s.heap (bs J++([J 12]++[J 13,J 14,J 15,J 16,J 17,J 18])) ([frL hh kk (J 1) (J 3) ct ⟨#[]⟩ ft [] 4,accO (J 2) (r6 J 13) es,adO c]++st8 c J++[lst [] pe]++([itR 0 5]++tup6 xx wt mt)):=hp
  have nd1:(bs J++([J 12]++[J 13,J 14,J 15,J 16,J 17,J 18])).Nodup:=hnd
  have fr1:∀ a∈bs J++([J 12]++[J 13,J 14,J 15,J 16,J 17,J 18]),gl w.params a=none∧183≤a:=hout
  obtain ⟨I,h2⟩:=At.of hp1
  obtain ⟨h3,h4⟩:=(has_app (as:=[J 12]) rfl).mp h2
  obtain ⟨h3,_⟩:=has_cons.mp h3
  have T:Tups s.heap [J 13,J 14,J 15,J 16,J 17,J 18] (six xx):=by
    obtain ⟨g0,h4⟩:=has_cons.mp h4
    obtain ⟨g1,h4⟩:=has_cons.mp h4
    obtain ⟨g2,h4⟩:=has_cons.mp h4
    obtain ⟨g3,h4⟩:=has_cons.mp h4
    obtain ⟨g4,h4⟩:=has_cons.mp h4
    obtain ⟨g5,h4⟩:=has_cons.mp h4
    exact .cons _ _ g0 (.cons _ _ g1 (.cons _ _ g2 (.cons _ _ g3 (.cons _ _ g4 (.cons _ _ g5 .nil)))))
  obtain ⟨n1,n2,n3⟩:=nodup_app nd1
  have nd:(J 12::bs J).Nodup:=(List.perm_append_comm (l₁:=bs J) (l₂:=[J 12])).nodup_iff.mp n1
  have dis:∀ a∈[J 13,J 14,J 15,J 16,J 17,J 18],a ∉ J 12::bs J:=fun a ha hm=>n3 a ha (by
    rcases mQ hm with rfl | hm
    · exact List.mem_append_right _ (List.mem_singleton.mpr rfl)
    · exact List.mem_append_left _ hm)
  have sub:∀ a∈J 12::bs J,a∈bs J++([J 12]++[J 13,J 14,J 15,J 16,J 17,J 18]):=fun a hm=>by
    rcases mQ hm with rfl | hm
    · exact List.mem_append_right _ (List.mem_append_left _ (List.mem_singleton.mpr rfl))
    · exact List.mem_append_left _ hm
  have fre:∀ a∈[J 13,J 14,J 15,J 16,J 17,J 18],gl w.params a=none∧183≤a:=fun a ha=>fr1 a (List.mem_append_right _ (List.mem_append_right _ ha))
  show codeAny (model prg w) A (llC J (J 12)) _ s
  refine loop_all (B:=J) (it:=J 12) (c:=c) (hh:=hh) (kk:=kk) (ct:=ct) sA nd (free_sub fr1 sub) hx rfl hg I h3 T n2 dis fre ?_
  rintro s' ⟨after,itr,e,a,b,c',d,ft',lt,pe',es',t0,t1,t2,t3,bb,u1,u2,I',hb,hbs⟩
  have T':Has s'.heap [J 13,J 14,J 15,J 16,J 17,J 18] (tup6 xx wt mt):=has_keep h4 fun z o hz e=>after.keep z o e (dis z hz)
  refine ⟨_,[(bb,lst [.str (lS (lst2 (t4 (six xx))).1.2) u1,.str (lS (lst2 (t4 (six xx))).2.2) u2] 0)],⟨[e,a,b,c',d,ft',t0,t1,t2,t3,es',lt,pe',u1,u2],rfl,rfl,rfl,rfl,rfl⟩,?_,?_,?_,after_more after sub⟩
  · exact I'.has ((has_app (as:=[J 12]) rfl).mpr ⟨has_cons.mpr ⟨itr,rfl⟩,T'⟩)
  · intro p hp
    rw [List.mem_singleton.mp hp]
    exact ⟨hb,hbs⟩
  · exact List.nodup_cons.mpr ⟨fun h=>(by cases h),List.nodup_nil⟩
end
section
open PySem PySem.W PySem.W.X PySem.Spec PySem.Calls PyProof.Rows PyProof.V
set_option maxHeartbeats 1000000
noncomputable abbrev Iv:=Int×Nat
noncomputable def ivs (v:List Iv):List Value:=v.map fun x=>.int x.1 x.2
noncomputable def ro (v:List Iv)(e:Nat):Obj:=lst (ivs v) e
theorem intsAre:∀ (v:List Iv),IntsAre (ivs v) (v.map (·.1))
  | []=>.nil
  | x::v=>.cons _ _ (intsAre v)
noncomputable def numOf:Value→Int
  | .int n _=>n
  | _=>0
noncomputable def numsIn (o:Obj):List Int:=match o.data with
  | .seq items _=>items.toList.map numOf
  | _=>[]
theorem numsIn_ro (v:List Iv)(e:Nat):numsIn (ro v e)=v.map (·.1):=by
  show (ivs v).toArray.toList.map numOf=_
  rw [List.toList_toArray]
  unfold ivs
  rw [List.map_map]
  rfl
noncomputable def isRow (h:Heap)(ns:List Int):Value→Bool
  | .ref a=>match h.get? a with
    | some o=>decide (numsIn o=ns)
    | none=>false
  | _=>false
theorem any_rows {h:Heap}{ns:List Int}:∀ {as:List Addr} {vss:List (List Iv×Nat)},Has h as (vss.map fun r=>ro r.1 r.2)→(as.map Value.ref).any (isRow h ns)=vss.any (fun r=>decide (r.1.map (·.1)=ns))
  | [],[],_=>rfl
  | [],_::_,e=>by cases e
  | a::as,[],e=>by cases e
  | a::as,r::vss,e=>by
    obtain ⟨h1,h2⟩:=has_cons.mp e
    rw [List.map_cons,List.any_cons,List.any_cons,any_rows h2]
    congr 1
    show (match h.get? a with | some o=>decide (numsIn o=ns) | none=>false)=_
    rw [h1]
    show decide (numsIn (ro r.1 r.2)=ns)=_
    rw [numsIn_ro]
theorem is_row {h:Heap}{as:List Addr}{vss:List (List Iv×Nat)}(e:Has h as (vss.map fun r=>ro r.1 r.2)):∀ a∈as,∃ v e',h.get? a=some (ro v e'):=by
  induction vss generalizing as with
  | nil =>
    cases as with
    | nil=>intro a ha;cases ha
    | cons a as=>cases e
  | cons r vss ih =>
    cases as with
    | nil=>cases e
    | cons a as =>
      obtain ⟨h1,h2⟩:=has_cons.mp e
      intro b hb
      rcases mQ hb with rfl | hb
      · exact ⟨_,_,h1⟩
      · exact ih h2 b hb
theorem isList_ro {h:Heap}{a:Addr}{v:List Iv}{e:Nat}(g:h.get? a=some (ro v e)):h.IsList a (ivs v).toArray:=⟨_,g,rfl,e,rfl⟩
theorem con_in {w:World}{d:Nat}{l a:Addr}{as:List Addr}{vss:List (List Iv×Nat)}{v:List Iv}{ve le:Nat}(hd:d≤900) :
    Con w d (.builtin "list.__contains__" ⟨[.ref l,.ref a],[]⟩) (l::a::as) (lst (as.map .ref) le::ro v ve::vss.map (fun r=>ro r.1 r.2)) (fun r os nw=>r=.ok (.ret (.bool (vss.any (fun r=>decide (r.1.map (·.1)=v.map (·.1))))))∧os=lst (as.map .ref) le::ro v ve::vss.map (fun r=>ro r.1 r.2)∧nw=[]):=by
  refine con_builtin (b:=Builtin.«list.__contains__») (by decide +kernel) (entryFor_of_tree (by kernel_rfl)) fun A s R sA hg hpre hnd hout hR=>?_
  obtain ⟨h1,h2⟩:=has_cons.mp hpre
  obtain ⟨h2,h3⟩:=has_cons.mp h2
  refine SeqAt.list_containsAt l (as.map Value.ref).toArray le none #[] (.ref a) (isRow s.heap (v.map (·.1))) prg w A R s ⟨h1,fun y hy=>?_,?_⟩
  · obtain ⟨b,hb,rfl⟩:=List.mem_map.mp (List.mem_toArray.mp hy)
    obtain ⟨u,e',hu⟩:=is_row h3 b hb
    have key:=keq_ints (A:=A) (isList_ro hu) (intsAre u) (isList_ro h2) (intsAre v) (by
      have:=sA.2.2
      show A.units+1+64<9900
      omega)
    have e:isRow s.heap (v.map (fun x=>x.1)) (Value.ref b)=decide (u.map (fun x=>x.1)=v.map (fun x=>x.1)):=by
      show (match s.heap.get? b with | some o=>decide (numsIn o=v.map (Prod.fst:Iv→Int)) | none=>false)=_
      rw [hu]
      show decide (numsIn (ro u e')=_)=_
      rw [numsIn_ro]
    rw [e]
    exact key
  · rw [show (as.map Value.ref).toArray.any (isRow s.heap (v.map (·.1)))=vss.any (fun r=>decide (r.1.map (·.1)=v.map (·.1))) from by rw [List.any_toArray];exact any_rows h3]
    exact hR _ _ ⟨_,[],⟨rfl,rfl,rfl⟩,hpre,(fun _ h=>by cases h),List.nodup_nil,After.same' hg⟩
noncomputable def X_in (vss:List (List Iv×Nat))(v:List Iv)(ve le:Nat)(b:Bool):Spec :=
  { n0:=2+vss.length,k:=0,nt:=0,d:=500,code:=fun J=>.builtin "list.__contains__" ⟨[.ref (J 0),.ref (J 1)],[]⟩,
    pre:=fun J=>lst ((List.range vss.length).map fun j=>.ref (J (2+j))) le::ro v ve::vss.map (fun r=>ro r.1 r.2),res:=fun _ _=>.ok (.ret (.bool b)),
    post:=fun J _=>lst ((List.range vss.length).map fun j=>.ref (J (2+j))) le::ro v ve::vss.map (fun r=>ro r.1 r.2),new:=fun _ _=>[] }
theorem rng_two (n:Nat)(J:Nu):rng (2+n) J=J 0::J 1::(List.range n).map fun j=>J (2+j):=by
  unfold rng
  rw [List.range_add,List.map_append,List.map_map]
  rfl
theorem ok_in {w:World}{vss:List (List Iv×Nat)}{v:List Iv}{ve le:Nat}{b:Bool}(hb:vss.any (fun r=>decide (r.1.map (·.1)=v.map (·.1)))=b):(X_in vss v ve le b).Ok w:=by
  refine ok_of_con fun J=>?_
  have e:(List.range vss.length).map (fun j=>Value.ref (trunc (2+vss.length) J (2+j)))=((List.range vss.length).map fun j=>J (2+j)).map Value.ref:=by
    rw [List.map_map]
    refine List.map_congr_left fun j hj=>?_
    show Value.ref _=Value.ref _
    rw [trunc_lt J (by have:=List.mem_range.mp hj;omega)]
  have e0:trunc (2+vss.length) J 0=J 0:=trunc_lt J (by omega)
  have e1:trunc (2+vss.length) J 1=J 1:=trunc_lt J (by omega)
  have key:=con_in (w:=w) (d:=500) (l:=J 0) (a:=J 1) (as:=(List.range vss.length).map fun j=>J (2+j)) (vss:=vss) (v:=v) (ve:=ve) (le:=le) (by decide)
  show Con w 500 (.builtin "list.__contains__" ⟨[.ref (trunc (2+vss.length) J 0),.ref (trunc (2+vss.length) J 1)],[]⟩) (rng (2+vss.length) J) (lst ((List.range vss.length).map fun j=>.ref (trunc (2+vss.length) J (2+j))) le::ro v ve::vss.map (fun r=>ro r.1 r.2)) _
  rw [e,e0,e1,rng_two]
  refine key.mono ?_
  rintro r os nw ⟨h1,h2,h3⟩
  refine ⟨[],rfl,by rw [h3];rfl,by rw [h1,hb];rfl,?_,by rw [h3];rfl⟩
  rw [h2]
  show _=lst _ _::_
  rw [List.map_map]
  congr 2
  refine List.map_congr_left fun j hj=>?_
  show Value.ref _=Value.ref _
  rw [both_lt (by show _<2+vss.length;have:=List.mem_range.mp hj;omega)]
end
section
open PySem PySem.W PySem.W.X PySem.Spec PySem.Calls
set_option maxHeartbeats 1000000
theorem after_push2 {g:Addr→Option Obj}{as:List Addr}{s:Shared}(hg:∀ a o,g a=some o→s.heap.get? a=some o)(o1 o2:Obj):After g as s { s with heap:=(s.heap.push o1).push o2 } :=
  ⟨fun a o e=>Heap.get?_push_of_some _ (Heap.get?_push_of_some _ (hg a o e)),fun b o e _=>Heap.get?_push_of_some _ (Heap.get?_push_of_some _ e),by
    show _≤((s.heap.push o1).push o2).objs.size
    rw [Heap.size_push,Heap.size_push];omega,rfl,rfl,rfl,Nat.le_refl _⟩
noncomputable def liO (l:Nat):Obj:={ cls:=.type "list_iterator",data:=.fields #[.ref l,.int 0 0] }
noncomputable def enO (i:Nat):Obj:={ cls:=.type "enumerate",data:=.fields #[.none,.bool false,.ref i,.int 0 0,.none,.none] }
theorem con_enum {w:World}{d:Nat}{l:Addr}{vs:List Value}{e:Nat} :
    Con w d (.builtin "enumerate.__new__" ⟨[.type "enumerate",.ref l],[]⟩) [l] [lst vs e] (fun r os nw=>os=[lst vs e]∧∃ a b,r=.ok (.ret (.ref b))∧nw=[(a,liO l),(b,enO a)]):=by
  refine con_builtin (b:=Builtin.«enumerate.__new__») (by decide +kernel) (entryFor_of_tree (by kernel_rfl)) fun A s R sA hg hpre hnd hout hR=>?_
  obtain ⟨h1,_⟩:=has_cons.mp hpre
  refine meets_enumerate_new l vs.toArray e prg w A R s ⟨h1,?_⟩
  have hs:(s.heap.push (liO l)).objs.size=s.heap.objs.size+1:=Heap.size_push ..
  have g1:((s.heap.push (liO l)).push (enO s.heap.objs.size)).get? s.heap.objs.size=some (liO l):=Heap.get?_push_of_some _ (Heap.get?_push_size _ rfl)
  have g2:((s.heap.push (liO l)).push (enO s.heap.objs.size)).get? (s.heap.push (liO l)).objs.size=some (enO s.heap.objs.size):=Heap.get?_push_size _ rfl
  refine hR _ _ ⟨[lst vs e],[(s.heap.objs.size,liO l),((s.heap.push (liO l)).objs.size,enO s.heap.objs.size)],⟨rfl,_,_,rfl,rfl⟩,?_,fun p hp=>?_,?_,after_push2 hg _ _⟩
  · exact has_cons.mpr ⟨Heap.get?_push_of_some _ (Heap.get?_push_of_some _ h1),rfl⟩
  · rcases mQ hp with rfl | hp
    · exact ⟨g1,Nat.le_refl _⟩
    · rw [List.mem_singleton.mp hp]
      exact ⟨g2,by show _≤(s.heap.push (liO l)).objs.size;omega⟩
  · refine List.nodup_cons.mpr ⟨fun hm=>?_,List.nodup_cons.mpr ⟨fun h=>(by cases h),List.nodup_nil⟩⟩
    have:s.heap.objs.size=(s.heap.push (liO l)).objs.size:=List.mem_singleton.mp hm
    omega
noncomputable def X_enum (vs:List Value)(e:Nat):Spec :=
  { n0:=1,k:=2,nt:=0,d:=900,code:=fun J=>.builtin "enumerate.__new__" ⟨[.type "enumerate",.ref (J 0)],[]⟩,pre:=fun J=>[lst vs e],res:=fun J _=>.ok (.ret (.ref (J 2))),post:=fun J _=>[lst vs e],new:=fun J _=>[liO (J 0),enO (J 1)] }
theorem ok_enum {w:World}{vs:List Value}{e:Nat}:(X_enum vs e).Ok w:=ok_of_con fun J=>(con_enum (w:=w) (d:=900) (l:=J 0) (vs:=vs) (e:=e)).mono fun r os nw ⟨h1,a,b,h2,h3⟩=>⟨[],rfl,by rw [h3];rfl,by rw [h2,h3];rfl,h1,by rw [h3];rfl⟩
theorem con_iadd {w:World}{d:Nat}{a b:Addr}{vs:List Value}{e e2:Nat}(h0:vs.length≠0)(hl:vs.length≤sizeLine) :
    Con w d (.builtin "list.__iadd__" ⟨[.ref a,.ref b],[]⟩) [a,b] [lst [] e,lst vs e2] (fun r os nw=>r=.ok (.ret (.ref a))∧os=[lst vs (e+1),lst vs e2]∧nw=[]):=by
  refine con_builtin (b:=Builtin.«list.__iadd__») (by decide +kernel) (entryFor_of_tree (by kernel_rfl)) fun A s R sA hg hpre hnd hout hR=>?_
  obtain ⟨ho,h2⟩:=has_cons.mp hpre
  obtain ⟨hb,_⟩:=has_cons.mp h2
  have hne:b≠a:=fun z=>(List.nodup_cons.mp hnd).1 (z▸List.mem_cons_self ..)
  refine AutoSeq1.list___iadd___list_list_0 a #[] e b vs.toArray e2 (by simp) (by simp) (by simp;omega) prg w A R s ⟨ho,hb,?_⟩
  have hf:Obj.mapSeq (fun x=>x++vs.toArray) (lst [] e)=lst vs (e+1):=mapSeq_lst (by simp) (by simpa using h0)
  have hs:Heap.SameBut a s.heap (s.heap.update a (Obj.mapSeq fun x=>x++vs.toArray)):=Heap.SameBut.update ..
  have ge:(s.heap.update a (Obj.mapSeq fun x=>x++vs.toArray)).get? a=some (Obj.mapSeq (fun x=>x++vs.toArray) (lst [] e)):=by first | exact Heap.get?_update_self _ ho (by rw [hf];rfl) | exact Heap.get?_update_self _ ho rfl
  refine hR _ _ ⟨[lst vs (e+1),lst vs e2],[],⟨rfl,rfl,rfl⟩,?_,(fun _ h=>by cases h),List.nodup_nil,?_⟩
  · exact has_cons.mpr ⟨by rw [← hf];exact ge,has_cons.mpr ⟨(hs.2 b hne).trans hb,rfl⟩⟩
  · refine ⟨fun b' o'' e=>?_,fun b' o'' e hn=>?_,?_,rfl,rfl,rfl,Nat.le_refl _⟩
    · refine (hs.2 b' fun z=>?_).trans (hg b' o'' e)
      have:=(hout a mS).1
      rw [← z,e] at this;cases this
    · exact (hs.2 b' fun z=>hn (by rw [z];exact List.mem_cons_self ..)).trans e
    · show _≤(s.heap.update a (Obj.mapSeq fun x=>x++vs.toArray)).objs.size
      rw [hs.1];exact Nat.le_refl _
noncomputable def X_iadd (vs:List Value)(e e2:Nat):Spec :=
  { n0:=2,k:=0,nt:=0,d:=900,code:=fun J=>.builtin "list.__iadd__" ⟨[.ref (J 0),.ref (J 1)],[]⟩,pre:=fun J=>[lst [] e,lst vs e2],res:=fun J _=>.ok (.ret (.ref (J 0))),post:=fun J _=>[lst vs (e+1),lst vs e2],new:=fun J _=>[] }
theorem ok_iadd {w:World}{vs:List Value}{e e2:Nat}(h0:vs.length≠0)(hl:vs.length≤sizeLine):(X_iadd vs e e2).Ok w:=ok_of_con fun J=>(con_iadd (w:=w) (d:=900) (a:=J 0) (b:=J 1) (vs:=vs) (e:=e) (e2:=e2) h0 hl).mono fun r os nw ⟨h1,h2,h3⟩=>⟨[],rfl,by rw [h3];rfl,h1,h2,by rw [h3];rfl⟩
structure Grow (s s':Shared):Prop where
  size:s.heap.objs.size≤s'.heap.objs.size
  toks:s.toks≤s'.toks
theorem Grow.refl (s:Shared):Grow s s:=⟨Nat.le_refl _,Nat.le_refl _⟩
theorem Grow.trans {a b c:Shared}(h:Grow a b)(g:Grow b c):Grow a c:=⟨Nat.le_trans h.size g.size,Nat.le_trans h.toks g.toks⟩
theorem runs_grow {M:Model}{Γ:PySem.Ctx}{p:Pos}{t:Sem Fin}{fs:List Frame}{s s':Shared}{e:End}(h:Runs M Γ p t fs s e s'):Grow s s':=by
  induction h with
  | update hx _ ih =>
    refine ⟨Nat.le_trans (Nat.le_of_eq ?_) ih.size,ih.toks⟩
    exact (Heap.size_after_update ..).symm
  | alloc _ ih=>exact ⟨Nat.le_trans (Nat.le_trans (Nat.le_succ _) (Nat.le_of_eq (Heap.size_push ..).symm)) ih.size,ih.toks⟩
  | fresh _ ih=>exact ⟨ih.size,Nat.le_trans (Nat.le_succ _) ih.toks⟩
  | call _ _ ih1 ih2=>exact ⟨Nat.le_trans ih1.size ih2.size,Nat.le_trans ih1.toks ih2.toks⟩
  | resumeFresh _ _ _ _ ih1 ih2=>exact ⟨Nat.le_trans ih1.size ih2.size,Nat.le_trans ih1.toks ih2.toks⟩
  | resumeSuspended _ _ _ _ ih1 ih2=>exact ⟨Nat.le_trans ih1.size ih2.size,Nat.le_trans ih1.toks ih2.toks⟩
  | segRet _ _ ih1 ih2=>exact ⟨Nat.le_trans ih1.size ih2.size,Nat.le_trans ih1.toks ih2.toks⟩
  | segGen _ _ ih1 ih2=>exact ⟨Nat.le_trans ih1.size ih2.size,Nat.le_trans ih1.toks ih2.toks⟩
  | segSuspGen _ _ _ _ ih1 ih2=>exact ⟨Nat.le_trans ih1.size ih2.size,Nat.le_trans ih1.toks ih2.toks⟩
  | _=>first | exact Grow.refl _ | (rename_i ih;exact ⟨ih.size,ih.toks⟩)
theorem code_grow {M:Model}{A:Around}{c:Code}{R:Result→Shared→Prop}{s:Shared}(h:codeAny M A c R s):codeAny M A c (fun r s'=>R r s'∧Grow s s') s:=fun Γ p hc hΓ=>by
  obtain ⟨r,s',h1,h2⟩:=h Γ p hc hΓ
  exact ⟨r,s',h1,h2,runs_grow h1⟩
theorem wakes_grow {M:Model}{Γ:PySem.Ctx}{p:Pos}{g:Nat}{r:Resume}{s s':Shared}{res:GenResult}(h:Wakes M Γ p g r s res s'):Grow s s':=by
  unfold Wakes at h
  repeat' split at h
  all_goals first
    | exact h.elim
    | (obtain ⟨_,rfl⟩:=h;exact ⟨Nat.le_refl _,Nat.le_refl _⟩)
    | (obtain ⟨e₁,s₁,h1,_,_,rfl⟩:=h
       have h2:=runs_grow h1
       exact ⟨h2.size,h2.toks⟩)
theorem wp_grow {α:Type}{M:Model}{Γ:PySem.Ctx}(t:Sem α):∀ {Q:α→Pos→Shared→Prop} {E:Value→Pos→Shared→Prop} {p:Pos} {s:Shared},Sem.wp M Γ t Q E p s→Sem.wp M Γ t (fun a p' s'=>Q a p' s'∧Grow s s') (fun a p' s'=>E a p' s'∧Grow s s') p s:=by
  induction t with
  | pure a=>intro Q E p s h;rw [Sem.wp] at h ⊢;exact ⟨h,Grow.refl _⟩
  | raise a=>intro Q E p s h;rw [Sem.wp] at h ⊢;exact ⟨h,Grow.refl _⟩
  | load a _ k ih=>intro Q E p s h;rw [Sem.wp] at h ⊢;obtain ⟨o,ho,h⟩:=h;exact ⟨o,ho,ih o h⟩
  | update a _ f k ih =>
    intro Q E p s h;rw [Sem.wp] at h ⊢;obtain ⟨ho,h⟩:=h;refine ⟨ho,?_⟩
    have h2:=ih () h
    have e:(s.heap.update a f).objs.size=s.heap.objs.size:=Heap.size_after_update ..
    refine Sem.wp_mono M Γ _ (fun a p' s' x=>⟨x.1,?_⟩) (fun a p' s' x=>⟨x.1,?_⟩) _ _ h2
    · have:=x.2.size;dsimp only at this;exact ⟨by omega,x.2.toks⟩
    · have:=x.2.size;dsimp only at this;exact ⟨by omega,x.2.toks⟩
  | alloc o k ih =>
    intro Q E p s h;rw [Sem.wp] at h ⊢
    have h2:=ih _ h
    have e:(s.heap.push o).objs.size=s.heap.objs.size+1:=Heap.size_push ..
    refine Sem.wp_mono M Γ _ (fun a p' s' x=>⟨x.1,?_⟩) (fun a p' s' x=>⟨x.1,?_⟩) _ _ h2
    · have:=x.2.size;dsimp only at this;exact ⟨by omega,x.2.toks⟩
    · have:=x.2.size;dsimp only at this;exact ⟨by omega,x.2.toks⟩
  | call c h g l k ih =>
    intro Q E p s h;rw [Sem.wp] at h ⊢
    obtain ⟨r,s',h1,h2⟩:=h
    refine ⟨r,s',h1,?_⟩
    have h3:=ih r h2
    have h4:=runs_grow h1
    exact Sem.wp_mono M Γ _ (fun a p' s'' x=>⟨x.1,h4.trans x.2⟩) (fun a p' s'' x=>⟨x.1,h4.trans x.2⟩) _ _ h3
  | resume g r l k ih =>
    intro Q E p s h;rw [Sem.wp] at h ⊢
    obtain ⟨r,s',h1,h2⟩:=h
    refine ⟨r,s',h1,?_⟩
    have h3:=ih r h2
    have h4:=wakes_grow h1
    exact Sem.wp_mono M Γ _ (fun a p' s'' x=>⟨x.1,h4.trans x.2⟩) (fun a p' s'' x=>⟨x.1,h4.trans x.2⟩) _ _ h3
  | fresh k ih =>
    intro Q E p s h;rw [Sem.wp] at h ⊢
    have h2:=ih _ h
    refine Sem.wp_mono M Γ _ (fun a p' s' x=>⟨x.1,?_⟩) (fun a p' s' x=>⟨x.1,?_⟩) _ _ h2
    · have:=x.2.toks;dsimp only at this;exact ⟨x.2.size,by omega⟩
    · have:=x.2.toks;dsimp only at this;exact ⟨x.2.size,by omega⟩
  | choose src n k ih=>intro Q E p s h;rw [Sem.wp] at h ⊢;exact ⟨h.1,Sem.wp_mono M Γ _ (fun a p' s' x=>⟨x.1,x.2.size,x.2.toks⟩) (fun a p' s' x=>⟨x.1,x.2.size,x.2.toks⟩) _ _ (ih _ h.2)⟩
  | genState g k ih=>intro Q E p s h;rw [Sem.wp] at h ⊢;obtain ⟨st,h1,h⟩:=h;exact ⟨st,h1,ih _ h⟩
  | _=>intro Q E p s h;first | (rw [Sem.wp] at h ⊢;rename_i ih;exact Sem.wp_mono M Γ _ (fun a p' s' x=>⟨x.1,x.2.size,x.2.toks⟩) (fun a p' s' x=>⟨x.1,x.2.size,x.2.toks⟩) _ _ (ih _ h)) | (rw [Sem.wp] at h;exact h.elim)
theorem wpAny_grow {α:Type}{M:Model}{A:Around}{t:Sem α}{Q:α→Shared→Prop}{E:Value→Shared→Prop}{s:Shared}(h:wpAny M A t Q E s):wpAny M A t (fun a s'=>Q a s'∧Grow s s') (fun a s'=>E a s'∧Grow s s') s:=fun Γ p hΓ=>wp_grow t (h Γ p hΓ)
end
section
open PySem PySem.W PySem.W.X PySem.Spec PySem.Calls PyProof.Rows PyProof.V
set_option maxHeartbeats 1000000
theorem after_of {g:Addr→Option Obj}{as:List Addr}{s:Shared}{h':Heap}{tk:Nat}(hg:∀ a o,g a=some o→s.heap.get? a=some o)(hout:∀ a∈as,g a=none)(hk:∀ b o,b ∉ as→s.heap.get? b=some o→h'.get? b=some o)
    (gr:Grow s { s with heap:=h',toks:=tk }):After g as s { s with heap:=h',toks:=tk } :=
  ⟨fun a o e=>hk a o (fun hm=>by rw [hout a hm] at e;cases e) (hg a o e),fun b o e hb=>hk b o hb e,gr.size,rfl,rfl,rfl,gr.toks⟩
theorem ivs_items (v:List Iv):(ivs v).toArray=intItems v.toArray:=by
  unfold ivs intItems
  rw [List.map_toArray]
theorem con_sum {w:World}{d:Nat}{l:Addr}{v:List Iv}{e:Nat} :
    Con w d (.builtin "sum" ⟨[.ref l],[]⟩) [l] [ro v e] (fun r os nw=>(∃ t,r=.ok (.ret (.int (v.map (·.1)).sum t)))∧os=[ro v e]∧nw=[]):=by
  refine con_builtin (b:=Builtin.«sum») F.plain_sum F.entry_sum fun A s R sA hg hpre hnd hout hR=>?_
  obtain ⟨h1,_⟩:=has_cons.mp hpre
  have hl:s.heap.IsList l (intItems v.toArray):=by rw [← ivs_items];exact isList_ro h1
  unfold Builtin.«sum»
  simp only [List.length_cons,List.length_nil]
  rw [if_neg (by decide)]
  refine wpAny_bind (wpAny_of_eq (show Builtin.Builtins.bindParams "sum" ["start"] 0 { }=pure [none] from rfl) ?_)
  refine wpAny_bind (iter_intList hl fun s₂ es st hfp hlI=>?_)
  refine wpAny_bind (wpAny_mkInt ?_)
  refine wpAny_bind (wpAny_pure ?_)
  simp only [List.forIn_cons,List.forIn_nil]
  refine wpAny_bind (wpAny_bind (wpAny_bind (wpAny_isInstance (T := "int") (b:=false) (typeIs_int _ _ _) PySem.sub_int_str ?_)))
  simp only [Bool.false_eq_true,if_false]
  refine wpAny_pure (wpAny_bind (wpAny_bind (wpAny_isInstance (T := "int") (b:=false) (typeIs_int _ _ _) PySem.sub_int_bytes ?_)))
  simp only [Bool.false_eq_true,if_false]
  refine wpAny_pure (wpAny_bind (wpAny_bind (wpAny_isInstance (T := "int") (b:=false) (typeIs_int _ _ _) PySem.sub_int_bytearray ?_)))
  simp only [Bool.false_eq_true,if_false]
  refine wpAny_pure (wpAny_pure ?_)
  refine wpAny_bind (wpAny_newObj_type ?_)
  have W:=Walks.list (prog:=prg) (w:=w) (A:=A.in1) sA.1 _ l hlI (intItems v.toArray)
  have hSf:s₂.heap.objs.size ∉ [s.heap.objs.size,l]:=fun hm=>Nat.lt_irrefl _ (hfp _ hm)
  have k1:∀ b o,s.heap.get? b=some o→s₂.heap.get? b=some o:=fun b o e=>by rw [es];exact Heap.get?_push_of_some _ e
  have sz:s₂.heap.objs.size=s.heap.objs.size+1:=by rw [es];exact Heap.size_push ..
  refine wpAny_pure ⟨plainId_quiet F.plain_sum_loop _,codeAny_mono (code_grow (codeAny_sum_loopG W (numAt v.toArray) (fun _ _=>intItems_at) s₂.heap.objs.size hSf _ 0 _ s₂.toks 0 0 (Or.inl rfl) rfl (Nat.zero_le _)
    (W.frame _ _ _ st fun b _ o e=>Heap.get?_push_of_some _ e) (Heap.get?_push_size _ rfl) (R:=fun r s'=>∃ t h' tk,r=.ok (.ret (.int (v.map (·.1)).sum t))∧s'={ s with heap:=h',toks:=tk }∧∀ b o,s.heap.get? b=some o→h'.get? b=some o) fun h' tk t' hk=>?_)) ?_⟩
  · refine ⟨t',h',tk,?_,?_,fun b o e=>?_⟩
    · rw [preSum_eq,List.take_of_length_le (by unfold intItems;simp)]
    · rw [es]
    · have hb:b<s.heap.objs.size:=Heap.lt_size e
      refine hk b o (fun hm=>?_) (fun hb2=>by rw [hb2,sz] at hb;exact absurd hb (Nat.not_lt.mpr (Nat.le_succ _))) (Heap.get?_push_of_some _ (k1 b o e))
      rw [List.mem_singleton.mp hm] at hb
      exact Nat.lt_irrefl _ hb
  · rintro r s' ⟨⟨t,h',tk,rfl,rfl,hk⟩,gr⟩
    have g1:=gr.size
    have g2:=gr.toks
    dsimp only at g1 g2
    rw [Heap.size_push] at g1
    have tk2:s₂.toks=s.toks:=by rw [es]
    exact hR _ _ ⟨[ro v e],[],⟨⟨t,rfl⟩,rfl,rfl⟩,has_cons.mpr ⟨hk _ _ h1,rfl⟩,(fun _ h=>by cases h),List.nodup_nil,after_of hg (fun a ha=>(hout a ha).1) (fun b o _ e=>hk b o e) ⟨by show _≤h'.objs.size;omega,by show _≤tk;omega⟩⟩
noncomputable def X_sum (v:List Iv)(e:Nat):Spec:={ n0:=1,k:=0,nt:=1,d:=900,code:=fun J=>.builtin "sum" ⟨[.ref (J 0)],[]⟩,pre:=fun _=>[ro v e],res:=fun _ θ=>.ok (.ret (.int (v.map (·.1)).sum (θ 0))),post:=fun _ _=>[ro v e],new:=fun _ _=>[] }
theorem ok_sum {w:World}{v:List Iv}{e:Nat}:(X_sum v e).Ok w:=ok_of_con fun J=>(con_sum (w:=w) (d:=900) (l:=J 0) (v:=v) (e:=e)).mono fun r os nw ⟨⟨t,h1⟩,h2,h3⟩=>⟨[t],rfl,by rw [h3];rfl,h1,h2,by rw [h3];rfl⟩
noncomputable def slO (a b c:Value):Obj:={ cls:=.type "slice",data:=.fields #[a,b,c] }
theorem after_push {g:Addr→Option Obj}{as:List Addr}{s:Shared}(hg:∀ a o,g a=some o→s.heap.get? a=some o)(o1:Obj):After g as s { s with heap:=s.heap.push o1 } :=
  ⟨fun a o e=>Heap.get?_push_of_some _ (hg a o e),fun b o e _=>Heap.get?_push_of_some _ e,by
    show _≤(s.heap.push o1).objs.size
    rw [Heap.size_push];omega,rfl,rfl,rfl,Nat.le_refl _⟩
theorem con_sl {w:World}{d:Nat}{l sl:Addr}{xs:List Value}{e:Nat}{vl vu vs:Value}{lo hi st:Option Int}(pl:IsPart vl lo)(pu:IsPart vu hi)(ps:IsPart vs st)(h0:st≠some 0)(hsz:xs.length≤sizeLine) :
    Con w d (.builtin "list.__getitem__" ⟨[.ref l,.ref sl],[]⟩) [l,sl] [lst xs e,slO vl vu vs] (fun r os nw=>∃ a,r=.ok (.ret (.ref a))∧os=[lst xs e,slO vl vu vs]∧nw=[(a,lst (slicePick xs.toArray lo hi st).toList 0)]):=by
  refine con_builtin (b:=Builtin.«list.__getitem__») (by decide +kernel) (entryFor_of_tree (by kernel_rfl)) fun A s R sA hg hpre hnd hout hR=>?_
  obtain ⟨ho,h2⟩:=has_cons.mp hpre
  obtain ⟨hos,_⟩:=has_cons.mp h2
  have hTs:s.TypeIs (.ref sl) "slice" := ⟨_,hos,rfl⟩
  have hds:(slO vl vu vs).data=.fields #[vl,vu,vs]:=rfl
  have fin:R (.ok (.ret (.ref s.heap.objs.size))) { s with heap:=s.heap.push { cls:=.type "list",data:=.seq (slicePick xs.toArray lo hi st) } }:=by
    refine hR _ _ ⟨_,[(s.heap.objs.size,lst (slicePick xs.toArray lo hi st).toList 0)],⟨_,rfl,rfl,rfl⟩,?_,fun p hp=>?_,List.nodup_cons.mpr ⟨fun h=>(by cases h),List.nodup_nil⟩,after_push hg _⟩
    · exact has_cons.mpr ⟨Heap.get?_push_of_some _ ho,has_cons.mpr ⟨Heap.get?_push_of_some _ hos,rfl⟩⟩
    · rw [List.mem_singleton.mp hp]
      exact ⟨Heap.get?_push_size _ rfl,Nat.le_refl _⟩
  show wpAny _ _ (Builtin.List.listSubscript? (.ref sl) >>= _) _ _ s
  refine wpAny_bind ?_
  unfold Builtin.List.listSubscript?
  refine wpAny_bind (wpAny_specialOf hTs slice_no_index ?_)
  simp only [Option.isNone_none,if_true]
  refine wpAny_pure ?_
  show wpAny _ _ (typeOf (.ref sl) >>= _) _ _ s
  refine wpAny_bind (wpAny_typeOf hTs ?_)
  rw [if_neg (by decide)]
  rw [listSliceParts_eq]
  have hstep:¬ ((rawPart st==rawInt 0)=true):=by
    cases st with
    | none=>exact Bool.false_ne_true
    | some c =>
      intro hh
      have:c=0:=by simpa [rawPart,rawInt] using hh
      exact h0 (by rw [this])
  refine wpAny_bind (wpAny_bind (wpAny_field hos hds (x:=vs) rfl (wpAny_bind (wpAny_listPart ps ?_))))
  rw [if_neg hstep]
  refine wpAny_bind (wpAny_field hos hds (x:=vl) rfl (wpAny_bind (wpAny_listPart pl ?_)))
  refine wpAny_bind (wpAny_field hos hds (x:=vu) rfl (wpAny_bind (wpAny_listPart pu (wpAny_pure ?_))))
  refine wpAny_bind (m:=Builtin.List.listItems (.ref l)) ?_
  unfold Builtin.List.listItems
  refine wpAny_bind (wpAny_seqItems ho rfl (wpAny_pure ?_))
  refine wpAny_bind (wpAny_of_eq (sliceIndices_raw lo hi st xs.toArray.size h0) ?_)
  refine wpAny_bind (wpAny_newObj_type (wpAny_pure fin) (Nat.le_trans (slicePick_size_le xs.toArray lo hi st) (by simpa using hsz)))
theorem ok_iaddB {w:World}{vs:List Value}{e e2:Nat}(h:(Nat.ble 1 vs.length&&Nat.ble vs.length 63)=true):(X_iadd vs e e2).Ok w:=by
  have h1:=Nat.le_of_ble_eq_true (Bool.and_eq_true_iff.mp h).1
  have h2:=Nat.le_of_ble_eq_true (Bool.and_eq_true_iff.mp h).2
  have:=sizeLine_eq
  exact ok_iadd (by omega) (by omega)
noncomputable def X_sl3 (v:List Iv)(e:Nat)(lo hi st:Int)(a b c:Nat)(u:List Iv):Spec:={ n0:=2,k:=1,nt:=0,d:=900,code:=fun J=>.builtin "list.__getitem__" ⟨[.ref (J 0),.ref (J 1)],[]⟩,pre:=fun _=>[ro v e,slO (.int lo a) (.int hi b) (.int st c)],res:=fun J _=>.ok (.ret (.ref (J 2))),post:=fun _ _=>[ro v e,slO (.int lo a) (.int hi b) (.int st c)],new:=fun _ _=>[ro u 0] }
theorem ok_sl3 {w:World}{v:List Iv}{e:Nat}{lo hi st:Int}{a b c:Nat}{u:List Iv}(h0:st≠0)(hv:v.length≤sizeLine)(hu:(slicePick (ivs v).toArray (some lo) (some hi) (some st)).toList=ivs u):(X_sl3 v e lo hi st a b c u).Ok w:=by
  refine ok_of_con fun J=>?_
  have key:=con_sl (w:=w) (d:=900) (l:=J 0) (sl:=J 1) (xs:=ivs v) (e:=e) (IsPart.int lo a) (IsPart.int hi b) (IsPart.int st c) (fun z=>h0 (Option.some.inj z)) (by unfold ivs;rw [List.length_map];exact hv)
  rw [hu] at key
  exact key.mono fun r os nw ⟨x,h1,h2,h3⟩=>⟨[],rfl,by rw [h3];rfl,by rw [h1,h3];rfl,h2,by rw [h3];rfl⟩
noncomputable def X_getN (v:List Iv)(e:Nat)(i:Int)(u:Nat)(x:Int):Spec:={ n0:=1,k:=0,nt:=1,d:=900,code:=fun J=>.builtin "list.__getitem__" ⟨[.ref (J 0),.int i u],[]⟩,pre:=fun _=>[ro v e],res:=fun _ θ=>.ok (.ret (.int x (θ 0))),post:=fun _ _=>[ro v e],new:=fun _ _=>[] }
theorem ok_getN {w:World}{v:List Iv}{e:Nat}{i:Int}{u:Nat}{x:Int}(h0:0≤i)(hi:i<2 ^ 63)(h:(v.map (·.1))[i.toNat]?=some x):(X_getN v e i u x).Ok w:=by
  refine ok_of_con fun J=>?_
  rw [List.getElem?_map] at h
  obtain ⟨p,hp,rfl⟩:=Option.map_eq_some_iff.mp h
  have hv:(ivs v)[i.toNat]?=some (.int p.1 p.2):=by unfold ivs;rw [List.getElem?_map,hp];rfl
  exact (con_getL (w:=w) (d:=900) (a:=J 0) (e:=e) (u:=u) h0 hi hv).mono fun r os nw ⟨h1,h2,h3⟩=>⟨[p.2],rfl,by rw [h3];rfl,h1,h2,by rw [h3];rfl⟩
noncomputable def X_getT (v:List (Str×Tok))(e:Nat)(i:Int)(u:Nat)(x:Str):Spec:={ n0:=1,k:=0,nt:=1,d:=900,code:=fun J=>.builtin "list.__getitem__" ⟨[.ref (J 0),.int i u],[]⟩,pre:=fun _=>[lst (strValues v) e],res:=fun _ θ=>.ok (.ret (.str x (θ 0))),post:=fun _ _=>[lst (strValues v) e],new:=fun _ _=>[] }
theorem ok_getT {w:World}{v:List (Str×Tok)}{e:Nat}{i:Int}{u:Nat}{x:Str}(h0:0≤i)(hi:i<2 ^ 63)(h:(v.map (·.1))[i.toNat]?=some x):(X_getT v e i u x).Ok w:=by
  refine ok_of_con fun J=>?_
  rw [List.getElem?_map] at h
  obtain ⟨p,hp,rfl⟩:=Option.map_eq_some_iff.mp h
  have hv:(strValues v)[i.toNat]?=some (.str p.1 p.2):=by unfold strValues;rw [List.getElem?_map,hp];rfl
  exact (con_getL (w:=w) (d:=900) (a:=J 0) (e:=e) (u:=u) h0 hi hv).mono fun r os nw ⟨h1,h2,h3⟩=>⟨[p.2],rfl,by rw [h3];rfl,h1,h2,by rw [h3];rfl⟩
noncomputable def X_joinL (sep:Str)(t:Nat)(ps:List (Str×Tok))(e:Nat)(x:Str):Spec:={ n0:=1,k:=0,nt:=1,d:=900,code:=fun J=>.builtin "str.join" ⟨[.str sep t,.ref (J 0)],[]⟩,pre:=fun _=>[lst (strValues ps) e],res:=fun _ Z=>.ok (.ret (.str x (Z 0))),post:=fun _ _=>[lst (strValues ps) e],new:=fun _ _=>[] }
theorem ok_joinL {w:World}{sep x:Str}{t e:Nat}{ps:List (Str×Tok)}(h1:ps.length≠1)(hx:Builtin.Str.glued sep (ps.map (·.1))=x)(hl:(ps.map (·.1)).toArray.foldl (·+·.length+sep.length) 0≤sizeLine)(hl2:x.length≤sizeLine):(X_joinL sep t ps e x).Ok w:=by
  refine ok_of_con fun J=>?_
  refine con_builtin (b:=Builtin.«str.join») (by decide +kernel) (entryFor_of_tree (by kernel_rfl)) fun A s R sA hg hpre hnd hout hR=>?_
  have ho:=(has_cons.mp (show Has s.heap [J 0] [lst (strValues ps) e] from hpre)).1
  have ht:Builtin.Str.tooLong ((ps.map (·.1)).toArray.foldl (·+·.length+sep.length) 0)=false:=by
    show decide (_>sizeLine)=false
    exact decide_eq_false (Nat.not_lt.mpr hl)
  have g:=meets_str_join_list sep t (J 0) ps ht
  refine g prg w A R s ⟨isList_lst ho,?_⟩
  have jm:joinMade sep ps=.str (Builtin.Str.glued sep (ps.map (·.1))):=by
    match ps,h1 with
    | [],_=>rfl
    | _::_::_,_=>rfl
  rw [jm,hx]
  exact ⟨hl2,hR _ _ ⟨[lst (strValues ps) e],[],⟨[s.toks],rfl,rfl,rfl,rfl,rfl⟩,hpre,(fun _ h=>by cases h),List.nodup_nil,After.same hg (Nat.le_succ _)⟩⟩
end
section
open PySem PySem.W PySem.W.X PySem.Spec PySem.Calls
noncomputable def rwB:List Stmt:=fnB 16
noncomputable def rwFor:Expr×List Stmt:=match rwB.drop 1 with
  | .For t _ b _ _::_=>(t,b)
  | _=>(default,[])
noncomputable def asgE:Stmt→Expr
  | .Assign _ e _=>e
  | _=>default
noncomputable def rwC (j:Nat):Expr:=asgE ((rwFor.2.drop j).headD default)
noncomputable def cScope:Expr→Scope
  | .ListComp _ _ s _=>s
  | _=>default
noncomputable def rwE (fr ce:Nat):Env:={ scope:=fnS 16,locals:=fr,globals:=3,cells:=[(⟨#[109,111,114,101]⟩,ce)],qual:=("_law_rows.<locals>." : Str),func:=some 207,code:=.ref 206,frame:=some fr,builtins:=0 }
noncomputable def ownN (env:Env)(sc:Scope):Scope:={ sc with names:=sc.names.map fun (n,k)=>if (k==.free&&env.scope.kind==.function&&env.kindOf n==some .cell) then (n,.cell) else (n,k) }
noncomputable def cEnv (env:Env)(e:Expr)(lo:Nat)(cells:List (Str×Addr)):Env:={ scope:=ownN env (cScope e),locals:=lo,globals:=3,cells:=cells,qual:=env.qual,func:=none,code:=env.code,frame:=env.frame,builtins:=0 }
noncomputable abbrev sSize:Str:=⟨#[115,105,122,101]⟩
noncomputable abbrev sRows:Str:=⟨#[114,111,119,115]⟩
noncomputable abbrev sRow:Str:=⟨#[114,111,119]⟩
noncomputable abbrev sJ:Str:=⟨#[106]⟩
noncomputable def dic (es:List DictEntry)(e:Nat):Obj:={ cls:=.type "dict",data:=.dict es.toArray e }
noncomputable def riO (a b c:Value):Obj:={ cls:=.type "range_iterator",data:=.fields #[a,b,c] }
noncomputable def liN (a b:Value):Obj:={ cls:=.type "list_iterator",data:=.fields #[a,b] }
end
section
open PySem PySem.W PySem.W.X PySem.Spec PySem.Calls
set_option maxHeartbeats 0
noncomputable def X_ri0 (Pw:Params)(tk vv:Nat→Nat)(fr:Nat):Spec:={ n0:=4,k:=1,nt:=3,d:=400,code:=fun J=>.compLoop (rwC 0) 1 (.ref (J 1)) (.ref (J 2)) (cEnv (rwE fr 0) (rwC 0) (J 0) []),pre:=fun J=>[dic [⟨hsh Pw sRow,.str sRow (tk 0),.ref (J 3)⟩] 1,riO (.int 0 0) (.int 1 0) (.int 1 0),lst [] 0,lst [.int 0 (tk 1)] 0],res:=fun J Z=>.ok .next,post:=fun J Z=>[dic [⟨hsh Pw sRow,.str sRow (tk 0),.ref (J 3)⟩,⟨hsh Pw sJ,.str sJ (Z 0),.int 0 (Z 1)⟩] 2,riO (.int 1 0) (.int 0 0) (.int 1 0),lst [.ref (J 4)] 1,lst [.int 0 (tk 1)] 0],new:=fun J Z=>[lst [.int 1 (Z 2),.int 1 (Z 2)] 2] }
noncomputable def ri0_hs (b1 b2:Bool):List Nat:=[2,2,2,2,2,2,2,2,2,1,1,0,0,1,1,4,4,4,4,5,5,5,5,5,4,1,1,4,4,4,4,7,7,7,7,7,4,6,8,6,6,8,6,8,1,1,4,4,4,4,4,10,10,10,10,10,9,11,9,9,11,9,11,13,14,14,14,14,14,14,14,14,14,14,3,3,3,3,2,2,2,2,2,18]
noncomputable def ri0_cs (Pw:Params)(tk vv:Nat→Nat)(fr:Nat)(b1 b2:Bool):List Ev:=[evX (fun J Z=>X_iadd [.int 1 (Z 5),.int 1 (Z 5)] 0 0) [12,11] 23 13 7]
theorem run_ri0 (tk vv:Nat→Nat)(fr:Nat)(Pw:Params):∀ (b1 b2:Bool) (J Z:Nu),RD (X_ri0 Pw tk vv fr) Pw b1 b2 194 (ri0_hs b1 b2) (ri0_cs Pw tk vv fr b1 b2) [13] [1,0,5] J Z
  | true,b2,J,Z=>by kernel_rfl
  | false,b2,J,Z=>by kernel_rfl
theorem ok_ri0 (w:World){tk vv:Nat→Nat}{fr:Nat}  : (X_ri0 w.params tk vv fr).Ok w :=
  ok_of_run (hs:=ri0_hs (row1 w) (row2 w)) (cs:=ri0_cs w.params tk vv fr (row1 w) (row2 w)) (ns:=[13]) (ts:=[1,0,5]) (vc (fun J Z=>ok_iaddB rfl) rfl (va_nil)) rfl rfl (by decide) (show ∀ j∈([13]:List Nat),4≤j by decide) (run_ri0 tk vv fr w.params (row1 w) (row2 w))
noncomputable def X_ri1 (Pw:Params)(tk vv:Nat→Nat)(fr:Nat):Spec:={ n0:=4,k:=2,nt:=4,d:=400,code:=fun J=>.compLoop (rwC 0) 1 (.ref (J 1)) (.ref (J 2)) (cEnv (rwE fr 0) (rwC 0) (J 0) []),pre:=fun J=>[dic [⟨hsh Pw sRow,.str sRow (tk 0),.ref (J 3)⟩] 1,riO (.int 0 0) (.int 2 0) (.int 1 0),lst [] 0,lst [.int 1 (tk 1),.int 1 (tk 1)] 2],res:=fun J Z=>.ok .next,post:=fun J Z=>[dic [⟨hsh Pw sRow,.str sRow (tk 0),.ref (J 3)⟩,⟨hsh Pw sJ,.str sJ (Z 0),.int 1 (Z 1)⟩] 2,riO (.int 2 0) (.int 0 0) (.int 1 0),lst [.ref (J 4),.ref (J 5)] 2,lst [.int 1 (tk 1),.int 1 (tk 1)] 2],new:=fun J Z=>[lst [.int 1 (tk 1),.int 2 (Z 2),.int 2 (Z 2)] 2,lst [.int 1 (tk 1),.int 2 (Z 3),.int 2 (Z 3)] 2] }
noncomputable def ri1_hs (b1 b2:Bool):List Nat:=[2,2,2,2,2,2,2,2,2,1,1,0,0,1,1,4,4,4,4,5,5,5,5,5,4,1,1,4,4,4,4,7,7,7,7,7,4,6,8,6,6,8,6,8,1,1,4,4,4,4,4,10,10,10,10,10,9,11,9,9,11,9,11,13,14,14,14,14,14,14,14,14,14,14,3,3,3,3,2,2,2,2,2,2,2,2,2,1,1,0,0,1,1,4,4,4,4,17,17,17,17,17,4,1,1,4,4,4,4,19,19,19,19,19,4,18,20,18,18,20,18,20,1,1,4,4,4,4,4,22,22,22,22,22,21,23,21,21,23,21,23,25,26,26,26,26,26,26,26,26,26,26,3,3,3,3,2,2,2,2,2,30]
noncomputable def ri1_cs (Pw:Params)(tk vv:Nat→Nat)(fr:Nat)(b1 b2:Bool):List Ev:=[evX (fun J Z=>X_iadd [.int 1 (tk 1),.int 2 (Z 5),.int 2 (Z 5)] 0 0) [12,11] 23 13 7,evX (fun J Z=>X_iadd [.int 1 (tk 1),.int 2 (Z 12),.int 2 (Z 12)] 0 0) [24,23] 32 25 14]
theorem run_ri1 (tk vv:Nat→Nat)(fr:Nat)(Pw:Params):∀ (b1 b2:Bool) (J Z:Nu),RD (X_ri1 Pw tk vv fr) Pw b1 b2 376 (ri1_hs b1 b2) (ri1_cs Pw tk vv fr b1 b2) [13,25] [1,7,5,12] J Z
  | true,b2,J,Z=>by kernel_rfl
  | false,b2,J,Z=>by kernel_rfl
theorem ok_ri1 (w:World){tk vv:Nat→Nat}{fr:Nat}  : (X_ri1 w.params tk vv fr).Ok w :=
  ok_of_run (hs:=ri1_hs (row1 w) (row2 w)) (cs:=ri1_cs w.params tk vv fr (row1 w) (row2 w)) (ns:=[13,25]) (ts:=[1,7,5,12]) (vc (fun J Z=>ok_iaddB rfl) rfl (vc (fun J Z=>ok_iaddB rfl) rfl (va_nil))) rfl rfl (by decide) (show ∀ j∈([13,25]:List Nat),4≤j by decide) (run_ri1 tk vv fr w.params (row1 w) (row2 w))
noncomputable def X_ri2 (Pw:Params)(tk vv:Nat→Nat)(fr:Nat):Spec:={ n0:=4,k:=3,nt:=5,d:=400,code:=fun J=>.compLoop (rwC 0) 1 (.ref (J 1)) (.ref (J 2)) (cEnv (rwE fr 0) (rwC 0) (J 0) []),pre:=fun J=>[dic [⟨hsh Pw sRow,.str sRow (tk 0),.ref (J 3)⟩] 1,riO (.int 0 0) (.int 3 0) (.int 1 0),lst [] 0,lst [.int 1 (tk 1),.int 2 (tk 2),.int 2 (tk 2)] 2],res:=fun J Z=>.ok .next,post:=fun J Z=>[dic [⟨hsh Pw sRow,.str sRow (tk 0),.ref (J 3)⟩,⟨hsh Pw sJ,.str sJ (Z 0),.int 2 (Z 1)⟩] 2,riO (.int 3 0) (.int 0 0) (.int 1 0),lst [.ref (J 4),.ref (J 5),.ref (J 6)] 3,lst [.int 1 (tk 1),.int 2 (tk 2),.int 2 (tk 2)] 2],new:=fun J Z=>[lst [.int 2 (tk 2),.int 2 (tk 2),.int 2 (Z 2),.int 2 (Z 2)] 2,lst [.int 1 (tk 1),.int 2 (tk 2),.int 3 (Z 3),.int 3 (Z 3)] 2,lst [.int 1 (tk 1),.int 2 (tk 2),.int 3 (Z 4),.int 3 (Z 4)] 2] }
noncomputable def ri2_hs (b1 b2:Bool):List Nat:=[2,2,2,2,2,2,2,2,2,1,1,0,0,1,1,4,4,4,4,5,5,5,5,5,4,1,1,4,4,4,4,7,7,7,7,7,4,6,8,6,6,8,6,8,1,1,4,4,4,4,4,10,10,10,10,10,9,11,9,9,11,9,11,13,14,14,14,14,14,14,14,14,14,14,3,3,3,3,2,2,2,2,2,2,2,2,2,1,1,0,0,1,1,4,4,4,4,17,17,17,17,17,4,1,1,4,4,4,4,19,19,19,19,19,4,18,20,18,18,20,18,20,1,1,4,4,4,4,4,22,22,22,22,22,21,23,21,21,23,21,23,25,26,26,26,26,26,26,26,26,26,26,3,3,3,3,2,2,2,2,2,2,2,2,2,1,1,0,0,1,1,4,4,4,4,29,29,29,29,29,4,1,1,4,4,4,4,31,31,31,31,31,4,30,32,30,30,32,30,32,1,1,4,4,4,4,4,34,34,34,34,34,33,35,33,33,35,33,35,37,38,38,38,38,38,38,38,38,38,38,3,3,3,3,2,2,2,2,2,42]
noncomputable def ri2_cs (Pw:Params)(tk vv:Nat→Nat)(fr:Nat)(b1 b2:Bool):List Ev:=[evX (fun J Z=>X_iadd [.int 2 (tk 2),.int 2 (tk 2),.int 2 (Z 5),.int 2 (Z 5)] 0 0) [12,11] 23 13 7,evX (fun J Z=>X_iadd [.int 1 (tk 1),.int 2 (tk 2),.int 3 (Z 12),.int 3 (Z 12)] 0 0) [24,23] 34 25 14,evX (fun J Z=>X_iadd [.int 1 (tk 1),.int 2 (tk 2),.int 3 (Z 19),.int 3 (Z 19)] 0 0) [36,35] 34 37 21]
theorem run_ri2 (tk vv:Nat→Nat)(fr:Nat)(Pw:Params):∀ (b1 b2:Bool) (J Z:Nu),RD (X_ri2 Pw tk vv fr) Pw b1 b2 566 (ri2_hs b1 b2) (ri2_cs Pw tk vv fr b1 b2) [13,25,37] [1,14,5,12,19] J Z
  | true,b2,J,Z=>by kernel_rfl
  | false,b2,J,Z=>by kernel_rfl
theorem ok_ri2 (w:World){tk vv:Nat→Nat}{fr:Nat}  : (X_ri2 w.params tk vv fr).Ok w :=
  ok_of_run (hs:=ri2_hs (row1 w) (row2 w)) (cs:=ri2_cs w.params tk vv fr (row1 w) (row2 w)) (ns:=[13,25,37]) (ts:=[1,14,5,12,19]) (vc (fun J Z=>ok_iaddB rfl) rfl (vc (fun J Z=>ok_iaddB rfl) rfl (vc (fun J Z=>ok_iaddB rfl) rfl (va_nil)))) rfl rfl (by decide) (show ∀ j∈([13,25,37]:List Nat),4≤j by decide) (run_ri2 tk vv fr w.params (row1 w) (row2 w))
noncomputable def X_ri3 (Pw:Params)(tk vv:Nat→Nat)(fr:Nat):Spec:={ n0:=4,k:=4,nt:=6,d:=400,code:=fun J=>.compLoop (rwC 0) 1 (.ref (J 1)) (.ref (J 2)) (cEnv (rwE fr 0) (rwC 0) (J 0) []),pre:=fun J=>[dic [⟨hsh Pw sRow,.str sRow (tk 0),.ref (J 3)⟩] 1,riO (.int 0 0) (.int 4 0) (.int 1 0),lst [] 0,lst [.int 2 (tk 1),.int 2 (tk 1),.int 2 (tk 2),.int 2 (tk 2)] 2],res:=fun J Z=>.ok .next,post:=fun J Z=>[dic [⟨hsh Pw sRow,.str sRow (tk 0),.ref (J 3)⟩,⟨hsh Pw sJ,.str sJ (Z 0),.int 3 (Z 1)⟩] 2,riO (.int 4 0) (.int 0 0) (.int 1 0),lst [.ref (J 4),.ref (J 5),.ref (J 6),.ref (J 7)] 4,lst [.int 2 (tk 1),.int 2 (tk 1),.int 2 (tk 2),.int 2 (tk 2)] 2],new:=fun J Z=>[lst [.int 2 (tk 1),.int 2 (tk 2),.int 2 (tk 2),.int 3 (Z 2),.int 3 (Z 2)] 2,lst [.int 2 (tk 1),.int 2 (tk 2),.int 2 (tk 2),.int 3 (Z 3),.int 3 (Z 3)] 2,lst [.int 2 (tk 1),.int 2 (tk 1),.int 2 (tk 2),.int 3 (Z 4),.int 3 (Z 4)] 2,lst [.int 2 (tk 1),.int 2 (tk 1),.int 2 (tk 2),.int 3 (Z 5),.int 3 (Z 5)] 2] }
noncomputable def ri3_hs (b1 b2:Bool):List Nat:=[2,2,2,2,2,2,2,2,2,1,1,0,0,1,1,4,4,4,4,5,5,5,5,5,4,1,1,4,4,4,4,7,7,7,7,7,4,6,8,6,6,8,6,8,1,1,4,4,4,4,4,10,10,10,10,10,9,11,9,9,11,9,11,13,14,14,14,14,14,14,14,14,14,14,3,3,3,3,2,2,2,2,2,2,2,2,2,1,1,0,0,1,1,4,4,4,4,17,17,17,17,17,4,1,1,4,4,4,4,19,19,19,19,19,4,18,20,18,18,20,18,20,1,1,4,4,4,4,4,22,22,22,22,22,21,23,21,21,23,21,23,25,26,26,26,26,26,26,26,26,26,26,3,3,3,3,2,2,2,2,2,2,2,2,2,1,1,0,0,1,1,4,4,4,4,29,29,29,29,29,4,1,1,4,4,4,4,31,31,31,31,31,4,30,32,30,30,32,30,32,1,1,4,4,4,4,4,34,34,34,34,34,33,35,33,33,35,33,35,37,38,38,38,38,38,38,38,38,38,38,3,3,3,3,2,2,2,2,2,2,2,2,2,1,1,0,0,1,1,4,4,4,4,41,41,41,41,41,4,1,1,4,4,4,4,43,43,43,43,43,4,42,44,42,42,44,42,44,1,1,4,4,4,4,4,46,46,46,46,46,45,47,45,45,47,45,47,49,50,50,50,50,50,50,50,50,50,50,3,3,3,3,2,2,2,2,2,54]
noncomputable def ri3_cs (Pw:Params)(tk vv:Nat→Nat)(fr:Nat)(b1 b2:Bool):List Ev:=[evX (fun J Z=>X_iadd [.int 2 (tk 1),.int 2 (tk 2),.int 2 (tk 2),.int 3 (Z 5),.int 3 (Z 5)] 0 0) [12,11] 23 13 7,evX (fun J Z=>X_iadd [.int 2 (tk 1),.int 2 (tk 2),.int 2 (tk 2),.int 3 (Z 12),.int 3 (Z 12)] 0 0) [24,23] 36 25 14,evX (fun J Z=>X_iadd [.int 2 (tk 1),.int 2 (tk 1),.int 2 (tk 2),.int 3 (Z 19),.int 3 (Z 19)] 0 0) [36,35] 36 37 21,evX (fun J Z=>X_iadd [.int 2 (tk 1),.int 2 (tk 1),.int 2 (tk 2),.int 3 (Z 26),.int 3 (Z 26)] 0 0) [48,47] 36 49 28]
theorem run_ri3 (tk vv:Nat→Nat)(fr:Nat)(Pw:Params):∀ (b1 b2:Bool) (J Z:Nu),RD (X_ri3 Pw tk vv fr) Pw b1 b2 764 (ri3_hs b1 b2) (ri3_cs Pw tk vv fr b1 b2) [13,25,37,49] [1,21,5,12,19,26] J Z
  | true,b2,J,Z=>by kernel_rfl
  | false,b2,J,Z=>by kernel_rfl
theorem ok_ri3 (w:World){tk vv:Nat→Nat}{fr:Nat}  : (X_ri3 w.params tk vv fr).Ok w :=
  ok_of_run (hs:=ri3_hs (row1 w) (row2 w)) (cs:=ri3_cs w.params tk vv fr (row1 w) (row2 w)) (ns:=[13,25,37,49]) (ts:=[1,21,5,12,19,26]) (vc (fun J Z=>ok_iaddB rfl) rfl (vc (fun J Z=>ok_iaddB rfl) rfl (vc (fun J Z=>ok_iaddB rfl) rfl (vc (fun J Z=>ok_iaddB rfl) rfl (va_nil))))) rfl rfl (by decide) (show ∀ j∈([13,25,37,49]:List Nat),4≤j by decide) (run_ri3 tk vv fr w.params (row1 w) (row2 w))
noncomputable def X_ri4 (Pw:Params)(tk vv:Nat→Nat)(fr:Nat):Spec:={ n0:=4,k:=4,nt:=5,d:=400,code:=fun J=>.compLoop (rwC 0) 1 (.ref (J 1)) (.ref (J 2)) (cEnv (rwE fr 0) (rwC 0) (J 0) []),pre:=fun J=>[dic [⟨hsh Pw sRow,.str sRow (tk 0),.ref (J 3)⟩,⟨hsh Pw sJ,.str sJ (tk 1),.int 3 (tk 2)⟩] 2,riO (.int 0 0) (.int 4 0) (.int 1 0),lst [.ref (vv 0),.ref (vv 1),.ref (vv 2),.ref (vv 3)] 4,lst [.int 1 (tk 3),.int 2 (tk 4),.int 3 (tk 5),.int 3 (tk 5)] 2],res:=fun J Z=>.ok .next,post:=fun J Z=>[dic [⟨hsh Pw sRow,.str sRow (tk 0),.ref (J 3)⟩,⟨hsh Pw sJ,.str sJ (tk 1),.int 3 (Z 0)⟩] 2,riO (.int 4 0) (.int 0 0) (.int 1 0),lst [.ref (vv 0),.ref (vv 1),.ref (vv 2),.ref (vv 3),.ref (J 4),.ref (J 5),.ref (J 6),.ref (J 7)] 8,lst [.int 1 (tk 3),.int 2 (tk 4),.int 3 (tk 5),.int 3 (tk 5)] 2],new:=fun J Z=>[lst [.int 2 (tk 4),.int 2 (Z 1),.int 2 (Z 1),.int 3 (tk 5),.int 3 (tk 5)] 2,lst [.int 1 (tk 3),.int 3 (tk 5),.int 3 (tk 5),.int 3 (Z 2),.int 3 (Z 2)] 2,lst [.int 1 (tk 3),.int 2 (tk 4),.int 3 (tk 5),.int 4 (Z 3),.int 4 (Z 3)] 2,lst [.int 1 (tk 3),.int 2 (tk 4),.int 3 (tk 5),.int 4 (Z 4),.int 4 (Z 4)] 2] }
noncomputable def ri4_hs (b1 b2:Bool):List Nat:=[2,2,2,2,2,2,2,2,2,1,1,0,0,1,1,4,4,4,4,5,5,5,5,5,4,1,1,4,4,4,4,7,7,7,7,7,4,6,8,6,6,8,6,8,1,1,4,4,4,4,4,10,10,10,10,10,9,11,9,9,11,9,11,13,14,14,14,14,14,14,14,14,14,14,3,3,3,3,2,2,2,2,2,2,2,2,2,1,1,0,0,1,1,4,4,4,4,17,17,17,17,17,4,1,1,4,4,4,4,19,19,19,19,19,4,18,20,18,18,20,18,20,1,1,4,4,4,4,4,22,22,22,22,22,21,23,21,21,23,21,23,25,26,26,26,26,26,26,26,26,26,26,3,3,3,3,2,2,2,2,2,2,2,2,2,1,1,0,0,1,1,4,4,4,4,29,29,29,29,29,4,1,1,4,4,4,4,31,31,31,31,31,4,30,32,30,30,32,30,32,1,1,4,4,4,4,4,34,34,34,34,34,33,35,33,33,35,33,35,37,38,38,38,38,38,38,38,38,38,38,3,3,3,3,2,2,2,2,2,2,2,2,2,1,1,0,0,1,1,4,4,4,4,41,41,41,41,41,4,1,1,4,4,4,4,43,43,43,43,43,4,42,44,42,42,44,42,44,1,1,4,4,4,4,4,46,46,46,46,46,45,47,45,45,47,45,47,49,50,50,50,50,50,50,50,50,50,50,3,3,3,3,2,2,2,2,2,54]
noncomputable def ri4_cs (Pw:Params)(tk vv:Nat→Nat)(fr:Nat)(b1 b2:Bool):List Ev:=[evX (fun J Z=>X_iadd [.int 2 (tk 4),.int 3 (tk 5),.int 3 (tk 5),.int 2 (Z 5),.int 2 (Z 5)] 0 0) [12,11] 23 13 7,evX (fun J Z=>X_iadd [.int 1 (tk 3),.int 3 (tk 5),.int 3 (tk 5),.int 3 (Z 12),.int 3 (Z 12)] 0 0) [24,23] 44 25 14,evX (fun J Z=>X_iadd [.int 1 (tk 3),.int 2 (tk 4),.int 3 (tk 5),.int 4 (Z 19),.int 4 (Z 19)] 0 0) [36,35] 36 37 21,evX (fun J Z=>X_iadd [.int 1 (tk 3),.int 2 (tk 4),.int 3 (tk 5),.int 4 (Z 26),.int 4 (Z 26)] 0 0) [48,47] 36 49 28]
theorem run_ri4 (tk vv:Nat→Nat)(fr:Nat)(Pw:Params):∀ (b1 b2:Bool) (J Z:Nu),RD (X_ri4 Pw tk vv fr) Pw b1 b2 781 (ri4_hs b1 b2) (ri4_cs Pw tk vv fr b1 b2) [13,25,37,49] [21,5,12,19,26] J Z
  | true,b2,J,Z=>by kernel_rfl
  | false,b2,J,Z=>by kernel_rfl
theorem ok_ri4 (w:World){tk vv:Nat→Nat}{fr:Nat}  : (X_ri4 w.params tk vv fr).Ok w :=
  ok_of_run (hs:=ri4_hs (row1 w) (row2 w)) (cs:=ri4_cs w.params tk vv fr (row1 w) (row2 w)) (ns:=[13,25,37,49]) (ts:=[21,5,12,19,26]) (vc (fun J Z=>ok_iaddB rfl) rfl (vc (fun J Z=>ok_iaddB rfl) rfl (vc (fun J Z=>ok_iaddB rfl) rfl (vc (fun J Z=>ok_iaddB rfl) rfl (va_nil))))) rfl rfl (by decide) (show ∀ j∈([13,25,37,49]:List Nat),4≤j by decide) (run_ri4 tk vv fr w.params (row1 w) (row2 w))
noncomputable def X_ri5 (Pw:Params)(tk vv:Nat→Nat)(fr:Nat):Spec:={ n0:=4,k:=5,nt:=7,d:=400,code:=fun J=>.compLoop (rwC 0) 1 (.ref (J 1)) (.ref (J 2)) (cEnv (rwE fr 0) (rwC 0) (J 0) []),pre:=fun J=>[dic [⟨hsh Pw sRow,.str sRow (tk 0),.ref (J 3)⟩] 1,riO (.int 0 0) (.int 5 0) (.int 1 0),lst [] 0,lst [.int 2 (tk 1),.int 2 (tk 2),.int 2 (tk 2),.int 3 (tk 3),.int 3 (tk 3)] 2],res:=fun J Z=>.ok .next,post:=fun J Z=>[dic [⟨hsh Pw sRow,.str sRow (tk 0),.ref (J 3)⟩,⟨hsh Pw sJ,.str sJ (Z 0),.int 4 (Z 1)⟩] 2,riO (.int 5 0) (.int 0 0) (.int 1 0),lst [.ref (J 4),.ref (J 5),.ref (J 6),.ref (J 7),.ref (J 8)] 5,lst [.int 2 (tk 1),.int 2 (tk 2),.int 2 (tk 2),.int 3 (tk 3),.int 3 (tk 3)] 2],new:=fun J Z=>[lst [.int 2 (tk 2),.int 2 (tk 2),.int 3 (tk 3),.int 3 (tk 3),.int 3 (Z 2),.int 3 (Z 2)] 2,lst [.int 2 (tk 1),.int 2 (tk 2),.int 3 (tk 3),.int 3 (tk 3),.int 3 (Z 3),.int 3 (Z 3)] 2,lst [.int 2 (tk 1),.int 2 (tk 2),.int 3 (tk 3),.int 3 (tk 3),.int 3 (Z 4),.int 3 (Z 4)] 2,lst [.int 2 (tk 1),.int 2 (tk 2),.int 2 (tk 2),.int 3 (tk 3),.int 4 (Z 5),.int 4 (Z 5)] 2,lst [.int 2 (tk 1),.int 2 (tk 2),.int 2 (tk 2),.int 3 (tk 3),.int 4 (Z 6),.int 4 (Z 6)] 2] }
noncomputable def ri5_hs (b1 b2:Bool):List Nat:=[2,2,2,2,2,2,2,2,2,1,1,0,0,1,1,4,4,4,4,5,5,5,5,5,4,1,1,4,4,4,4,7,7,7,7,7,4,6,8,6,6,8,6,8,1,1,4,4,4,4,4,10,10,10,10,10,9,11,9,9,11,9,11,13,14,14,14,14,14,14,14,14,14,14,3,3,3,3,2,2,2,2,2,2,2,2,2,1,1,0,0,1,1,4,4,4,4,17,17,17,17,17,4,1,1,4,4,4,4,19,19,19,19,19,4,18,20,18,18,20,18,20,1,1,4,4,4,4,4,22,22,22,22,22,21,23,21,21,23,21,23,25,26,26,26,26,26,26,26,26,26,26,3,3,3,3,2,2,2,2,2,2,2,2,2,1,1,0,0,1,1,4,4,4,4,29,29,29,29,29,4,1,1,4,4,4,4,31,31,31,31,31,4,30,32,30,30,32,30,32,1,1,4,4,4,4,4,34,34,34,34,34,33,35,33,33,35,33,35,37,38,38,38,38,38,38,38,38,38,38,3,3,3,3,2,2,2,2,2,2,2,2,2,1,1,0,0,1,1,4,4,4,4,41,41,41,41,41,4,1,1,4,4,4,4,43,43,43,43,43,4,42,44,42,42,44,42,44,1,1,4,4,4,4,4,46,46,46,46,46,45,47,45,45,47,45,47,49,50,50,50,50,50,50,50,50,50,50,3,3,3,3,2,2,2,2,2,2,2,2,2,1,1,0,0,1,1,4,4,4,4,53,53,53,53,53,4,1,1,4,4,4,4,55,55,55,55,55,4,54,56,54,54,56,54,56,1,1,4,4,4,4,4,58,58,58,58,58,57,59,57,57,59,57,59,61,62,62,62,62,62,62,62,62,62,62,3,3,3,3,2,2,2,2,2,66]
noncomputable def ri5_cs (Pw:Params)(tk vv:Nat→Nat)(fr:Nat)(b1 b2:Bool):List Ev:=[evX (fun J Z=>X_iadd [.int 2 (tk 2),.int 2 (tk 2),.int 3 (tk 3),.int 3 (tk 3),.int 3 (Z 5),.int 3 (Z 5)] 0 0) [12,11] 23 13 7,evX (fun J Z=>X_iadd [.int 2 (tk 1),.int 2 (tk 2),.int 3 (tk 3),.int 3 (tk 3),.int 3 (Z 12),.int 3 (Z 12)] 0 0) [24,23] 38 25 14,evX (fun J Z=>X_iadd [.int 2 (tk 1),.int 2 (tk 2),.int 3 (tk 3),.int 3 (tk 3),.int 3 (Z 19),.int 3 (Z 19)] 0 0) [36,35] 38 37 21,evX (fun J Z=>X_iadd [.int 2 (tk 1),.int 2 (tk 2),.int 2 (tk 2),.int 3 (tk 3),.int 4 (Z 26),.int 4 (Z 26)] 0 0) [48,47] 38 49 28,evX (fun J Z=>X_iadd [.int 2 (tk 1),.int 2 (tk 2),.int 2 (tk 2),.int 3 (tk 3),.int 4 (Z 33),.int 4 (Z 33)] 0 0) [60,59] 38 61 35]
theorem run_ri5 (tk vv:Nat→Nat)(fr:Nat)(Pw:Params):∀ (b1 b2:Bool) (J Z:Nu),RD (X_ri5 Pw tk vv fr) Pw b1 b2 970 (ri5_hs b1 b2) (ri5_cs Pw tk vv fr b1 b2) [13,25,37,49,61] [1,28,5,12,19,26,33] J Z
  | true,b2,J,Z=>by kernel_rfl
  | false,b2,J,Z=>by kernel_rfl
theorem ok_ri5 (w:World){tk vv:Nat→Nat}{fr:Nat}  : (X_ri5 w.params tk vv fr).Ok w :=
  ok_of_run (hs:=ri5_hs (row1 w) (row2 w)) (cs:=ri5_cs w.params tk vv fr (row1 w) (row2 w)) (ns:=[13,25,37,49,61]) (ts:=[1,28,5,12,19,26,33]) (vc (fun J Z=>ok_iaddB rfl) rfl (vc (fun J Z=>ok_iaddB rfl) rfl (vc (fun J Z=>ok_iaddB rfl) rfl (vc (fun J Z=>ok_iaddB rfl) rfl (vc (fun J Z=>ok_iaddB rfl) rfl (va_nil)))))) rfl rfl (by decide) (show ∀ j∈([13,25,37,49,61]:List Nat),4≤j by decide) (run_ri5 tk vv fr w.params (row1 w) (row2 w))
noncomputable def X_ri6 (Pw:Params)(tk vv:Nat→Nat)(fr:Nat):Spec:={ n0:=4,k:=5,nt:=6,d:=400,code:=fun J=>.compLoop (rwC 0) 1 (.ref (J 1)) (.ref (J 2)) (cEnv (rwE fr 0) (rwC 0) (J 0) []),pre:=fun J=>[dic [⟨hsh Pw sRow,.str sRow (tk 0),.ref (J 3)⟩,⟨hsh Pw sJ,.str sJ (tk 1),.int 4 (tk 2)⟩] 2,riO (.int 0 0) (.int 5 0) (.int 1 0),lst [.ref (vv 0),.ref (vv 1),.ref (vv 2),.ref (vv 3),.ref (vv 4)] 5,lst [.int 1 (tk 3),.int 3 (tk 4),.int 3 (tk 4),.int 3 (tk 5),.int 3 (tk 5)] 2],res:=fun J Z=>.ok .next,post:=fun J Z=>[dic [⟨hsh Pw sRow,.str sRow (tk 0),.ref (J 3)⟩,⟨hsh Pw sJ,.str sJ (tk 1),.int 4 (Z 0)⟩] 2,riO (.int 5 0) (.int 0 0) (.int 1 0),lst [.ref (vv 0),.ref (vv 1),.ref (vv 2),.ref (vv 3),.ref (vv 4),.ref (J 4),.ref (J 5),.ref (J 6),.ref (J 7),.ref (J 8)] 10,lst [.int 1 (tk 3),.int 3 (tk 4),.int 3 (tk 4),.int 3 (tk 5),.int 3 (tk 5)] 2],new:=fun J Z=>[lst [.int 2 (Z 1),.int 2 (Z 1),.int 3 (tk 4),.int 3 (tk 4),.int 3 (tk 5),.int 3 (tk 5)] 2,lst [.int 1 (tk 3),.int 3 (tk 4),.int 3 (tk 5),.int 3 (tk 5),.int 4 (Z 2),.int 4 (Z 2)] 2,lst [.int 1 (tk 3),.int 3 (tk 4),.int 3 (tk 5),.int 3 (tk 5),.int 4 (Z 3),.int 4 (Z 3)] 2,lst [.int 1 (tk 3),.int 3 (tk 4),.int 3 (tk 4),.int 3 (tk 5),.int 4 (Z 4),.int 4 (Z 4)] 2,lst [.int 1 (tk 3),.int 3 (tk 4),.int 3 (tk 4),.int 3 (tk 5),.int 4 (Z 5),.int 4 (Z 5)] 2] }
noncomputable def ri6_hs (b1 b2:Bool):List Nat:=[2,2,2,2,2,2,2,2,2,1,1,0,0,1,1,4,4,4,4,5,5,5,5,5,4,1,1,4,4,4,4,7,7,7,7,7,4,6,8,6,6,8,6,8,1,1,4,4,4,4,4,10,10,10,10,10,9,11,9,9,11,9,11,13,14,14,14,14,14,14,14,14,14,14,3,3,3,3,2,2,2,2,2,2,2,2,2,1,1,0,0,1,1,4,4,4,4,17,17,17,17,17,4,1,1,4,4,4,4,19,19,19,19,19,4,18,20,18,18,20,18,20,1,1,4,4,4,4,4,22,22,22,22,22,21,23,21,21,23,21,23,25,26,26,26,26,26,26,26,26,26,26,3,3,3,3,2,2,2,2,2,2,2,2,2,1,1,0,0,1,1,4,4,4,4,29,29,29,29,29,4,1,1,4,4,4,4,31,31,31,31,31,4,30,32,30,30,32,30,32,1,1,4,4,4,4,4,34,34,34,34,34,33,35,33,33,35,33,35,37,38,38,38,38,38,38,38,38,38,38,3,3,3,3,2,2,2,2,2,2,2,2,2,1,1,0,0,1,1,4,4,4,4,41,41,41,41,41,4,1,1,4,4,4,4,43,43,43,43,43,4,42,44,42,42,44,42,44,1,1,4,4,4,4,4,46,46,46,46,46,45,47,45,45,47,45,47,49,50,50,50,50,50,50,50,50,50,50,3,3,3,3,2,2,2,2,2,2,2,2,2,1,1,0,0,1,1,4,4,4,4,53,53,53,53,53,4,1,1,4,4,4,4,55,55,55,55,55,4,54,56,54,54,56,54,56,1,1,4,4,4,4,4,58,58,58,58,58,57,59,57,57,59,57,59,61,62,62,62,62,62,62,62,62,62,62,3,3,3,3,2,2,2,2,2,66]
noncomputable def ri6_cs (Pw:Params)(tk vv:Nat→Nat)(fr:Nat)(b1 b2:Bool):List Ev:=[evX (fun J Z=>X_iadd [.int 3 (tk 4),.int 3 (tk 4),.int 3 (tk 5),.int 3 (tk 5),.int 2 (Z 5),.int 2 (Z 5)] 0 0) [12,11] 23 13 7,evX (fun J Z=>X_iadd [.int 1 (tk 3),.int 3 (tk 4),.int 3 (tk 5),.int 3 (tk 5),.int 4 (Z 12),.int 4 (Z 12)] 0 0) [24,23] 42 25 14,evX (fun J Z=>X_iadd [.int 1 (tk 3),.int 3 (tk 4),.int 3 (tk 5),.int 3 (tk 5),.int 4 (Z 19),.int 4 (Z 19)] 0 0) [36,35] 38 37 21,evX (fun J Z=>X_iadd [.int 1 (tk 3),.int 3 (tk 4),.int 3 (tk 4),.int 3 (tk 5),.int 4 (Z 26),.int 4 (Z 26)] 0 0) [48,47] 38 49 28,evX (fun J Z=>X_iadd [.int 1 (tk 3),.int 3 (tk 4),.int 3 (tk 4),.int 3 (tk 5),.int 4 (Z 33),.int 4 (Z 33)] 0 0) [60,59] 38 61 35]
theorem run_ri6 (tk vv:Nat→Nat)(fr:Nat)(Pw:Params):∀ (b1 b2:Bool) (J Z:Nu),RD (X_ri6 Pw tk vv fr) Pw b1 b2 979 (ri6_hs b1 b2) (ri6_cs Pw tk vv fr b1 b2) [13,25,37,49,61] [28,5,12,19,26,33] J Z
  | true,b2,J,Z=>by kernel_rfl
  | false,b2,J,Z=>by kernel_rfl
theorem ok_ri6 (w:World){tk vv:Nat→Nat}{fr:Nat}  : (X_ri6 w.params tk vv fr).Ok w :=
  ok_of_run (hs:=ri6_hs (row1 w) (row2 w)) (cs:=ri6_cs w.params tk vv fr (row1 w) (row2 w)) (ns:=[13,25,37,49,61]) (ts:=[28,5,12,19,26,33]) (vc (fun J Z=>ok_iaddB rfl) rfl (vc (fun J Z=>ok_iaddB rfl) rfl (vc (fun J Z=>ok_iaddB rfl) rfl (vc (fun J Z=>ok_iaddB rfl) rfl (vc (fun J Z=>ok_iaddB rfl) rfl (va_nil)))))) rfl rfl (by decide) (show ∀ j∈([13,25,37,49,61]:List Nat),4≤j by decide) (run_ri6 tk vv fr w.params (row1 w) (row2 w))
noncomputable def X_ri7 (Pw:Params)(tk vv:Nat→Nat)(fr:Nat):Spec:={ n0:=4,k:=5,nt:=6,d:=400,code:=fun J=>.compLoop (rwC 0) 1 (.ref (J 1)) (.ref (J 2)) (cEnv (rwE fr 0) (rwC 0) (J 0) []),pre:=fun J=>[dic [⟨hsh Pw sRow,.str sRow (tk 0),.ref (J 3)⟩,⟨hsh Pw sJ,.str sJ (tk 1),.int 4 (tk 2)⟩] 2,riO (.int 0 0) (.int 5 0) (.int 1 0),lst [.ref (vv 0),.ref (vv 1),.ref (vv 2),.ref (vv 3),.ref (vv 4),.ref (vv 5),.ref (vv 6),.ref (vv 7),.ref (vv 8),.ref (vv 9)] 10,lst [.int 1 (tk 3),.int 2 (tk 4),.int 3 (tk 5),.int 4 (tk 6),.int 4 (tk 6)] 2],res:=fun J Z=>.ok .next,post:=fun J Z=>[dic [⟨hsh Pw sRow,.str sRow (tk 0),.ref (J 3)⟩,⟨hsh Pw sJ,.str sJ (tk 1),.int 4 (Z 0)⟩] 2,riO (.int 5 0) (.int 0 0) (.int 1 0),lst [.ref (vv 0),.ref (vv 1),.ref (vv 2),.ref (vv 3),.ref (vv 4),.ref (vv 5),.ref (vv 6),.ref (vv 7),.ref (vv 8),.ref (vv 9),.ref (J 4),.ref (J 5),.ref (J 6),.ref (J 7),.ref (J 8)] 15,lst [.int 1 (tk 3),.int 2 (tk 4),.int 3 (tk 5),.int 4 (tk 6),.int 4 (tk 6)] 2],new:=fun J Z=>[lst [.int 2 (tk 4),.int 2 (Z 1),.int 2 (Z 1),.int 3 (tk 5),.int 4 (tk 6),.int 4 (tk 6)] 2,lst [.int 1 (tk 3),.int 3 (tk 5),.int 3 (Z 2),.int 3 (Z 2),.int 4 (tk 6),.int 4 (tk 6)] 2,lst [.int 1 (tk 3),.int 2 (tk 4),.int 4 (tk 6),.int 4 (tk 6),.int 4 (Z 3),.int 4 (Z 3)] 2,lst [.int 1 (tk 3),.int 2 (tk 4),.int 3 (tk 5),.int 4 (tk 6),.int 5 (Z 4),.int 5 (Z 4)] 2,lst [.int 1 (tk 3),.int 2 (tk 4),.int 3 (tk 5),.int 4 (tk 6),.int 5 (Z 5),.int 5 (Z 5)] 2] }
noncomputable def ri7_hs (b1 b2:Bool):List Nat:=[2,2,2,2,2,2,2,2,2,1,1,0,0,1,1,4,4,4,4,5,5,5,5,5,4,1,1,4,4,4,4,7,7,7,7,7,4,6,8,6,6,8,6,8,1,1,4,4,4,4,4,10,10,10,10,10,9,11,9,9,11,9,11,13,14,14,14,14,14,14,14,14,14,14,3,3,3,3,2,2,2,2,2,2,2,2,2,1,1,0,0,1,1,4,4,4,4,17,17,17,17,17,4,1,1,4,4,4,4,19,19,19,19,19,4,18,20,18,18,20,18,20,1,1,4,4,4,4,4,22,22,22,22,22,21,23,21,21,23,21,23,25,26,26,26,26,26,26,26,26,26,26,3,3,3,3,2,2,2,2,2,2,2,2,2,1,1,0,0,1,1,4,4,4,4,29,29,29,29,29,4,1,1,4,4,4,4,31,31,31,31,31,4,30,32,30,30,32,30,32,1,1,4,4,4,4,4,34,34,34,34,34,33,35,33,33,35,33,35,37,38,38,38,38,38,38,38,38,38,38,3,3,3,3,2,2,2,2,2,2,2,2,2,1,1,0,0,1,1,4,4,4,4,41,41,41,41,41,4,1,1,4,4,4,4,43,43,43,43,43,4,42,44,42,42,44,42,44,1,1,4,4,4,4,4,46,46,46,46,46,45,47,45,45,47,45,47,49,50,50,50,50,50,50,50,50,50,50,3,3,3,3,2,2,2,2,2,2,2,2,2,1,1,0,0,1,1,4,4,4,4,53,53,53,53,53,4,1,1,4,4,4,4,55,55,55,55,55,4,54,56,54,54,56,54,56,1,1,4,4,4,4,4,58,58,58,58,58,57,59,57,57,59,57,59,61,62,62,62,62,62,62,62,62,62,62,3,3,3,3,2,2,2,2,2,66]
noncomputable def ri7_cs (Pw:Params)(tk vv:Nat→Nat)(fr:Nat)(b1 b2:Bool):List Ev:=[evX (fun J Z=>X_iadd [.int 2 (tk 4),.int 3 (tk 5),.int 4 (tk 6),.int 4 (tk 6),.int 2 (Z 5),.int 2 (Z 5)] 0 0) [12,11] 23 13 7,evX (fun J Z=>X_iadd [.int 1 (tk 3),.int 3 (tk 5),.int 4 (tk 6),.int 4 (tk 6),.int 3 (Z 12),.int 3 (Z 12)] 0 0) [24,23] 48 25 14,evX (fun J Z=>X_iadd [.int 1 (tk 3),.int 2 (tk 4),.int 4 (tk 6),.int 4 (tk 6),.int 4 (Z 19),.int 4 (Z 19)] 0 0) [36,35] 48 37 21,evX (fun J Z=>X_iadd [.int 1 (tk 3),.int 2 (tk 4),.int 3 (tk 5),.int 4 (tk 6),.int 5 (Z 26),.int 5 (Z 26)] 0 0) [48,47] 38 49 28,evX (fun J Z=>X_iadd [.int 1 (tk 3),.int 2 (tk 4),.int 3 (tk 5),.int 4 (tk 6),.int 5 (Z 33),.int 5 (Z 33)] 0 0) [60,59] 38 61 35]
theorem run_ri7 (tk vv:Nat→Nat)(fr:Nat)(Pw:Params):∀ (b1 b2:Bool) (J Z:Nu),RD (X_ri7 Pw tk vv fr) Pw b1 b2 1012 (ri7_hs b1 b2) (ri7_cs Pw tk vv fr b1 b2) [13,25,37,49,61] [28,5,12,19,26,33] J Z
  | true,b2,J,Z=>by kernel_rfl
  | false,b2,J,Z=>by kernel_rfl
theorem ok_ri7 (w:World){tk vv:Nat→Nat}{fr:Nat}  : (X_ri7 w.params tk vv fr).Ok w :=
  ok_of_run (hs:=ri7_hs (row1 w) (row2 w)) (cs:=ri7_cs w.params tk vv fr (row1 w) (row2 w)) (ns:=[13,25,37,49,61]) (ts:=[28,5,12,19,26,33]) (vc (fun J Z=>ok_iaddB rfl) rfl (vc (fun J Z=>ok_iaddB rfl) rfl (vc (fun J Z=>ok_iaddB rfl) rfl (vc (fun J Z=>ok_iaddB rfl) rfl (vc (fun J Z=>ok_iaddB rfl) rfl (va_nil)))))) rfl rfl (by decide) (show ∀ j∈([13,25,37,49,61]:List Nat),4≤j by decide) (run_ri7 tk vv fr w.params (row1 w) (row2 w))
noncomputable def X_rl5 (Pw:Params)(tk vv:Nat→Nat):Spec:={ n0:=3,k:=0,nt:=0,d:=384,code:=fun J=>.forLoop rwFor.1 (.ref (J 2)) rwFor.2 [] (rwE (J 0) (J 1)),pre:=fun J=>[frm [⟨hsh Pw sSize,.str sSize (tk 0),.int 6 (tk 1)⟩,⟨hsh Pw sRows,.str sRows (tk 2),.ref (vv 0)⟩,⟨hsh Pw sK,.str sK (tk 3),.int 4 (tk 4)⟩] 3,cellO (.ref (vv 1)),riO (.int 5 0) (.int 0 0) (.int 1 0)],res:=fun J Z=>.ok .next,post:=fun J Z=>[frm [⟨hsh Pw sSize,.str sSize (tk 0),.int 6 (tk 1)⟩,⟨hsh Pw sRows,.str sRows (tk 2),.ref (vv 0)⟩,⟨hsh Pw sK,.str sK (tk 3),.int 4 (tk 4)⟩] 3,cellO (.ref (vv 1)),riO (.int 5 0) (.int 0 0) (.int 1 0)],new:=fun J Z=>[] }
noncomputable def rl5_hs (b1 b2:Bool):List Nat:=[3,3,3,3,3,5]
noncomputable def rl5_cs (Pw:Params)(tk vv:Nat→Nat)(b1 b2:Bool):List Ev:=[]
theorem run_rl5 (tk vv:Nat→Nat)(Pw:Params):∀ (b1 b2:Bool) (J Z:Nu),RD (X_rl5 Pw tk vv) Pw b1 b2 21 (rl5_hs b1 b2) (rl5_cs Pw tk vv b1 b2) [] [] J Z
  | true,true,J,Z=>by kernel_rfl
  | true,false,J,Z=>by kernel_rfl
  | false,true,J,Z=>by kernel_rfl
  | false,false,J,Z=>by kernel_rfl
theorem ok_rl5 (w:World){tk vv:Nat→Nat}  : (X_rl5 w.params tk vv).Ok w :=
  ok_of_run (hs:=rl5_hs (row1 w) (row2 w)) (cs:=rl5_cs w.params tk vv (row1 w) (row2 w)) (ns:=[]) (ts:=[]) (va_nil) rfl rfl (by decide) (show ∀ j∈([]:List Nat),3≤j by decide) (run_rl5 tk vv w.params (row1 w) (row2 w))
noncomputable def X_rl4 (Pw:Params)(tk vv:Nat→Nat):Spec:={ n0:=7,k:=17,nt:=16,d:=384,code:=fun J=>.forLoop rwFor.1 (.ref (J 2)) rwFor.2 [] (rwE (J 0) (J 1)),pre:=fun J=>[frm [⟨hsh Pw sSize,.str sSize (tk 0),.int 6 (tk 1)⟩,⟨hsh Pw sRows,.str sRows (tk 2),.ref (J 3)⟩,⟨hsh Pw sK,.str sK (tk 3),.int 3 (tk 4)⟩] 3,cellO (.ref (vv 0)),riO (.int 4 0) (.int 1 0) (.int 1 0),lst [.ref (J 4),.ref (J 5),.ref (J 6)] 3,lst [.int 2 (tk 5),.int 2 (tk 6),.int 2 (tk 6),.int 3 (tk 7),.int 3 (tk 7)] 2,lst [.int 1 (tk 8),.int 3 (tk 9),.int 3 (tk 9),.int 3 (tk 10),.int 3 (tk 10)] 2,lst [.int 1 (tk 8),.int 2 (tk 5),.int 3 (tk 9),.int 4 (tk 11),.int 4 (tk 11)] 2],res:=fun J Z=>.ok .next,post:=fun J Z=>[frm [⟨hsh Pw sSize,.str sSize (tk 0),.int 6 (tk 1)⟩,⟨hsh Pw sRows,.str sRows (tk 2),.ref (J 7)⟩,⟨hsh Pw sK,.str sK (tk 3),.int 4 (Z 0)⟩] 3,cellO (.ref (J 8)),riO (.int 5 0) (.int 0 0) (.int 1 0),lst [.ref (J 4),.ref (J 5),.ref (J 6)] 3,lst [.int 2 (tk 5),.int 2 (tk 6),.int 2 (tk 6),.int 3 (tk 7),.int 3 (tk 7)] 2,lst [.int 1 (tk 8),.int 3 (tk 9),.int 3 (tk 9),.int 3 (tk 10),.int 3 (tk 10)] 2,lst [.int 1 (tk 8),.int 2 (tk 5),.int 3 (tk 9),.int 4 (tk 11),.int 4 (tk 11)] 2],new:=fun J Z=>[lst [.ref (J 9),.ref (J 12),.ref (J 15),.ref (J 21),.ref (J 22)] 5,lst [.ref (J 9),.ref (J 10),.ref (J 11),.ref (J 12),.ref (J 13),.ref (J 14),.ref (J 15),.ref (J 16),.ref (J 17),.ref (J 18),.ref (J 19),.ref (J 20),.ref (J 21),.ref (J 22),.ref (J 23)] 15,lst [.int 2 (tk 6),.int 2 (tk 6),.int 3 (tk 7),.int 3 (tk 7),.int 3 (Z 1),.int 3 (Z 1)] 2,lst [.int 2 (tk 5),.int 2 (tk 6),.int 3 (tk 7),.int 3 (tk 7),.int 3 (Z 2),.int 3 (Z 2)] 2,lst [.int 2 (tk 5),.int 2 (tk 6),.int 3 (tk 7),.int 3 (tk 7),.int 3 (Z 3),.int 3 (Z 3)] 2,lst [.int 2 (tk 5),.int 2 (tk 6),.int 2 (tk 6),.int 3 (tk 7),.int 4 (Z 4),.int 4 (Z 4)] 2,lst [.int 2 (tk 5),.int 2 (tk 6),.int 2 (tk 6),.int 3 (tk 7),.int 4 (Z 5),.int 4 (Z 5)] 2,lst [.int 2 (Z 6),.int 2 (Z 6),.int 3 (tk 9),.int 3 (tk 9),.int 3 (tk 10),.int 3 (tk 10)] 2,lst [.int 1 (tk 8),.int 3 (tk 9),.int 3 (tk 10),.int 3 (tk 10),.int 4 (Z 7),.int 4 (Z 7)] 2,lst [.int 1 (tk 8),.int 3 (tk 9),.int 3 (tk 10),.int 3 (tk 10),.int 4 (Z 8),.int 4 (Z 8)] 2,lst [.int 1 (tk 8),.int 3 (tk 9),.int 3 (tk 9),.int 3 (tk 10),.int 4 (Z 9),.int 4 (Z 9)] 2,lst [.int 1 (tk 8),.int 3 (tk 9),.int 3 (tk 9),.int 3 (tk 10),.int 4 (Z 10),.int 4 (Z 10)] 2,lst [.int 2 (tk 5),.int 2 (Z 11),.int 2 (Z 11),.int 3 (tk 9),.int 4 (tk 11),.int 4 (tk 11)] 2,lst [.int 1 (tk 8),.int 3 (tk 9),.int 3 (Z 12),.int 3 (Z 12),.int 4 (tk 11),.int 4 (tk 11)] 2,lst [.int 1 (tk 8),.int 2 (tk 5),.int 4 (tk 11),.int 4 (tk 11),.int 4 (Z 13),.int 4 (Z 13)] 2,lst [.int 1 (tk 8),.int 2 (tk 5),.int 3 (tk 9),.int 4 (tk 11),.int 5 (Z 14),.int 5 (Z 14)] 2,lst [.int 1 (tk 8),.int 2 (tk 5),.int 3 (tk 9),.int 4 (tk 11),.int 5 (Z 15),.int 5 (Z 15)] 2] }
noncomputable def rl4_e0 (Pw:Params)(tk vv:Nat→Nat)(s m i:Nat):Ev:=evX (fun J Z=>X_ri5 Pw (pick [(Z 2),(tk 5),(tk 6),(tk 7)] 0) (pick [] 0) (J 0)) [9,11,8,4] s m i
noncomputable def rl4_e1 (Pw:Params)(tk vv:Nat→Nat)(s m i:Nat):Ev:=evX (fun J Z=>X_ri6 Pw (pick [(Z 2),(Z 7),(Z 8),(tk 8),(tk 9),(tk 10)] 0) (pick [(J 12),(J 13),(J 14),(J 15),(J 16)] 0) (J 0)) [9,18,8,5] s m i
noncomputable def rl4_e2 (Pw:Params)(tk vv:Nat→Nat)(s m i:Nat):Ev:=evX (fun J Z=>X_ri7 Pw (pick [(Z 2),(Z 7),(Z 19),(tk 8),(tk 5),(tk 9),(tk 11)] 0) (pick [(J 12),(J 13),(J 14),(J 15),(J 16),(J 19),(J 20),(J 21),(J 22),(J 23)] 0) (J 0)) [9,25,8,6] s m i
noncomputable def rl4_e3 (Pw:Params)(tk vv:Nat→Nat)(s m i:Nat):Ev:=evX (fun J Z=>X_enum [.ref (J 12),.ref (J 13),.ref (J 14),.ref (J 15),.ref (J 16),.ref (J 19),.ref (J 20),.ref (J 21),.ref (J 22),.ref (J 23),.ref (J 26),.ref (J 27),.ref (J 28),.ref (J 29),.ref (J 30)] 15) [8] s m i
noncomputable def rl4_e4 (Pw:Params)(tk vv:Nat→Nat)(s m i:Nat):Ev:=evX (fun J Z=>X_in [] [(2,(tk 6)),(2,(tk 6)),(3,(tk 7)),(3,(tk 7)),(3,(Z 9)),(3,(Z 9))] 2 0 false) [42,12] s m i
noncomputable def rl4_e5 (Pw:Params)(tk vv:Nat→Nat)(s m i:Nat):Ev:=evX (fun J Z=>X_in [([(2,(tk 6)),(2,(tk 6)),(3,(tk 7)),(3,(tk 7)),(3,(Z 9)),(3,(Z 9))],2)] [(2,(tk 5)),(2,(tk 6)),(3,(tk 7)),(3,(tk 7)),(3,(Z 10)),(3,(Z 10))] 2 0 true) [48,13,12] s m i
noncomputable def rl4_e6 (Pw:Params)(tk vv:Nat→Nat)(s m i:Nat):Ev:=evX (fun J Z=>X_in [([(2,(tk 6)),(2,(tk 6)),(3,(tk 7)),(3,(tk 7)),(3,(Z 9)),(3,(Z 9))],2),([(2,(tk 5)),(2,(tk 6)),(3,(tk 7)),(3,(tk 7)),(3,(Z 10)),(3,(Z 10))],2)] [(2,(tk 5)),(2,(tk 6)),(3,(tk 7)),(3,(tk 7)),(3,(Z 11)),(3,(Z 11))] 2 0 true) [54,14,12,13] s m i
noncomputable def rl4_e7 (Pw:Params)(tk vv:Nat→Nat)(s m i:Nat):Ev:=evX (fun J Z=>X_in [([(2,(tk 6)),(2,(tk 6)),(3,(tk 7)),(3,(tk 7)),(3,(Z 9)),(3,(Z 9))],2),([(2,(tk 5)),(2,(tk 6)),(3,(tk 7)),(3,(tk 7)),(3,(Z 10)),(3,(Z 10))],2),([(2,(tk 5)),(2,(tk 6)),(3,(tk 7)),(3,(tk 7)),(3,(Z 11)),(3,(Z 11))],2)] [(2,(tk 5)),(2,(tk 6)),(2,(tk 6)),(3,(tk 7)),(4,(Z 12)),(4,(Z 12))] 2 0 false) [60,15,12,13,14] s m i
noncomputable def rl4_e8 (Pw:Params)(tk vv:Nat→Nat)(s m i:Nat):Ev:=evX (fun J Z=>X_in [([(2,(tk 6)),(2,(tk 6)),(3,(tk 7)),(3,(tk 7)),(3,(Z 9)),(3,(Z 9))],2),([(2,(tk 5)),(2,(tk 6)),(3,(tk 7)),(3,(tk 7)),(3,(Z 10)),(3,(Z 10))],2),([(2,(tk 5)),(2,(tk 6)),(3,(tk 7)),(3,(tk 7)),(3,(Z 11)),(3,(Z 11))],2),([(2,(tk 5)),(2,(tk 6)),(2,(tk 6)),(3,(tk 7)),(4,(Z 12)),(4,(Z 12))],2)] [(2,(tk 5)),(2,(tk 6)),(2,(tk 6)),(3,(tk 7)),(4,(Z 13)),(4,(Z 13))] 2 0 true) [66,16,12,13,14,15] s m i
noncomputable def rl4_e9 (Pw:Params)(tk vv:Nat→Nat)(s m i:Nat):Ev:=evX (fun J Z=>X_in [([(2,(tk 6)),(2,(tk 6)),(3,(tk 7)),(3,(tk 7)),(3,(Z 9)),(3,(Z 9))],2),([(2,(tk 5)),(2,(tk 6)),(3,(tk 7)),(3,(tk 7)),(3,(Z 10)),(3,(Z 10))],2),([(2,(tk 5)),(2,(tk 6)),(3,(tk 7)),(3,(tk 7)),(3,(Z 11)),(3,(Z 11))],2),([(2,(tk 5)),(2,(tk 6)),(2,(tk 6)),(3,(tk 7)),(4,(Z 12)),(4,(Z 12))],2),([(2,(tk 5)),(2,(tk 6)),(2,(tk 6)),(3,(tk 7)),(4,(Z 13)),(4,(Z 13))],2)] [(2,(Z 20)),(2,(Z 20)),(3,(tk 9)),(3,(tk 9)),(3,(tk 10)),(3,(tk 10))] 2 0 true) [72,19,12,13,14,15,16] s m i
noncomputable def rl4_e10 (Pw:Params)(tk vv:Nat→Nat)(s m i:Nat):Ev:=evX (fun J Z=>X_in [([(2,(tk 6)),(2,(tk 6)),(3,(tk 7)),(3,(tk 7)),(3,(Z 9)),(3,(Z 9))],2),([(2,(tk 5)),(2,(tk 6)),(3,(tk 7)),(3,(tk 7)),(3,(Z 10)),(3,(Z 10))],2),([(2,(tk 5)),(2,(tk 6)),(3,(tk 7)),(3,(tk 7)),(3,(Z 11)),(3,(Z 11))],2),([(2,(tk 5)),(2,(tk 6)),(2,(tk 6)),(3,(tk 7)),(4,(Z 12)),(4,(Z 12))],2),([(2,(tk 5)),(2,(tk 6)),(2,(tk 6)),(3,(tk 7)),(4,(Z 13)),(4,(Z 13))],2),([(2,(Z 20)),(2,(Z 20)),(3,(tk 9)),(3,(tk 9)),(3,(tk 10)),(3,(tk 10))],2)] [(1,(tk 8)),(3,(tk 9)),(3,(tk 10)),(3,(tk 10)),(4,(Z 21)),(4,(Z 21))] 2 0 false) [78,20,12,13,14,15,16,19] s m i
noncomputable def rl4_e11 (Pw:Params)(tk vv:Nat→Nat)(s m i:Nat):Ev:=evX (fun J Z=>X_in [([(2,(tk 6)),(2,(tk 6)),(3,(tk 7)),(3,(tk 7)),(3,(Z 9)),(3,(Z 9))],2),([(2,(tk 5)),(2,(tk 6)),(3,(tk 7)),(3,(tk 7)),(3,(Z 10)),(3,(Z 10))],2),([(2,(tk 5)),(2,(tk 6)),(3,(tk 7)),(3,(tk 7)),(3,(Z 11)),(3,(Z 11))],2),([(2,(tk 5)),(2,(tk 6)),(2,(tk 6)),(3,(tk 7)),(4,(Z 12)),(4,(Z 12))],2),([(2,(tk 5)),(2,(tk 6)),(2,(tk 6)),(3,(tk 7)),(4,(Z 13)),(4,(Z 13))],2),([(2,(Z 20)),(2,(Z 20)),(3,(tk 9)),(3,(tk 9)),(3,(tk 10)),(3,(tk 10))],2),([(1,(tk 8)),(3,(tk 9)),(3,(tk 10)),(3,(tk 10)),(4,(Z 21)),(4,(Z 21))],2)] [(1,(tk 8)),(3,(tk 9)),(3,(tk 10)),(3,(tk 10)),(4,(Z 22)),(4,(Z 22))] 2 0 true) [84,21,12,13,14,15,16,19,20] s m i
noncomputable def rl4_e12 (Pw:Params)(tk vv:Nat→Nat)(s m i:Nat):Ev:=evX (fun J Z=>X_in [([(2,(tk 6)),(2,(tk 6)),(3,(tk 7)),(3,(tk 7)),(3,(Z 9)),(3,(Z 9))],2),([(2,(tk 5)),(2,(tk 6)),(3,(tk 7)),(3,(tk 7)),(3,(Z 10)),(3,(Z 10))],2),([(2,(tk 5)),(2,(tk 6)),(3,(tk 7)),(3,(tk 7)),(3,(Z 11)),(3,(Z 11))],2),([(2,(tk 5)),(2,(tk 6)),(2,(tk 6)),(3,(tk 7)),(4,(Z 12)),(4,(Z 12))],2),([(2,(tk 5)),(2,(tk 6)),(2,(tk 6)),(3,(tk 7)),(4,(Z 13)),(4,(Z 13))],2),([(2,(Z 20)),(2,(Z 20)),(3,(tk 9)),(3,(tk 9)),(3,(tk 10)),(3,(tk 10))],2),([(1,(tk 8)),(3,(tk 9)),(3,(tk 10)),(3,(tk 10)),(4,(Z 21)),(4,(Z 21))],2),([(1,(tk 8)),(3,(tk 9)),(3,(tk 10)),(3,(tk 10)),(4,(Z 22)),(4,(Z 22))],2)] [(1,(tk 8)),(3,(tk 9)),(3,(tk 9)),(3,(tk 10)),(4,(Z 23)),(4,(Z 23))] 2 0 true) [90,22,12,13,14,15,16,19,20,21] s m i
noncomputable def rl4_e13 (Pw:Params)(tk vv:Nat→Nat)(s m i:Nat):Ev:=evX (fun J Z=>X_in [([(2,(tk 6)),(2,(tk 6)),(3,(tk 7)),(3,(tk 7)),(3,(Z 9)),(3,(Z 9))],2),([(2,(tk 5)),(2,(tk 6)),(3,(tk 7)),(3,(tk 7)),(3,(Z 10)),(3,(Z 10))],2),([(2,(tk 5)),(2,(tk 6)),(3,(tk 7)),(3,(tk 7)),(3,(Z 11)),(3,(Z 11))],2),([(2,(tk 5)),(2,(tk 6)),(2,(tk 6)),(3,(tk 7)),(4,(Z 12)),(4,(Z 12))],2),([(2,(tk 5)),(2,(tk 6)),(2,(tk 6)),(3,(tk 7)),(4,(Z 13)),(4,(Z 13))],2),([(2,(Z 20)),(2,(Z 20)),(3,(tk 9)),(3,(tk 9)),(3,(tk 10)),(3,(tk 10))],2),([(1,(tk 8)),(3,(tk 9)),(3,(tk 10)),(3,(tk 10)),(4,(Z 21)),(4,(Z 21))],2),([(1,(tk 8)),(3,(tk 9)),(3,(tk 10)),(3,(tk 10)),(4,(Z 22)),(4,(Z 22))],2),([(1,(tk 8)),(3,(tk 9)),(3,(tk 9)),(3,(tk 10)),(4,(Z 23)),(4,(Z 23))],2)] [(1,(tk 8)),(3,(tk 9)),(3,(tk 9)),(3,(tk 10)),(4,(Z 24)),(4,(Z 24))] 2 0 true) [96,23,12,13,14,15,16,19,20,21,22] s m i
noncomputable def rl4_e14 (Pw:Params)(tk vv:Nat→Nat)(s m i:Nat):Ev:=evX (fun J Z=>X_in [([(2,(tk 6)),(2,(tk 6)),(3,(tk 7)),(3,(tk 7)),(3,(Z 9)),(3,(Z 9))],2),([(2,(tk 5)),(2,(tk 6)),(3,(tk 7)),(3,(tk 7)),(3,(Z 10)),(3,(Z 10))],2),([(2,(tk 5)),(2,(tk 6)),(3,(tk 7)),(3,(tk 7)),(3,(Z 11)),(3,(Z 11))],2),([(2,(tk 5)),(2,(tk 6)),(2,(tk 6)),(3,(tk 7)),(4,(Z 12)),(4,(Z 12))],2),([(2,(tk 5)),(2,(tk 6)),(2,(tk 6)),(3,(tk 7)),(4,(Z 13)),(4,(Z 13))],2),([(2,(Z 20)),(2,(Z 20)),(3,(tk 9)),(3,(tk 9)),(3,(tk 10)),(3,(tk 10))],2),([(1,(tk 8)),(3,(tk 9)),(3,(tk 10)),(3,(tk 10)),(4,(Z 21)),(4,(Z 21))],2),([(1,(tk 8)),(3,(tk 9)),(3,(tk 10)),(3,(tk 10)),(4,(Z 22)),(4,(Z 22))],2),([(1,(tk 8)),(3,(tk 9)),(3,(tk 9)),(3,(tk 10)),(4,(Z 23)),(4,(Z 23))],2),([(1,(tk 8)),(3,(tk 9)),(3,(tk 9)),(3,(tk 10)),(4,(Z 24)),(4,(Z 24))],2)] [(2,(tk 5)),(2,(Z 31)),(2,(Z 31)),(3,(tk 9)),(4,(tk 11)),(4,(tk 11))] 2 0 true) [102,26,12,13,14,15,16,19,20,21,22,23] s m i
noncomputable def rl4_e15 (Pw:Params)(tk vv:Nat→Nat)(s m i:Nat):Ev:=evX (fun J Z=>X_in [([(2,(tk 6)),(2,(tk 6)),(3,(tk 7)),(3,(tk 7)),(3,(Z 9)),(3,(Z 9))],2),([(2,(tk 5)),(2,(tk 6)),(3,(tk 7)),(3,(tk 7)),(3,(Z 10)),(3,(Z 10))],2),([(2,(tk 5)),(2,(tk 6)),(3,(tk 7)),(3,(tk 7)),(3,(Z 11)),(3,(Z 11))],2),([(2,(tk 5)),(2,(tk 6)),(2,(tk 6)),(3,(tk 7)),(4,(Z 12)),(4,(Z 12))],2),([(2,(tk 5)),(2,(tk 6)),(2,(tk 6)),(3,(tk 7)),(4,(Z 13)),(4,(Z 13))],2),([(2,(Z 20)),(2,(Z 20)),(3,(tk 9)),(3,(tk 9)),(3,(tk 10)),(3,(tk 10))],2),([(1,(tk 8)),(3,(tk 9)),(3,(tk 10)),(3,(tk 10)),(4,(Z 21)),(4,(Z 21))],2),([(1,(tk 8)),(3,(tk 9)),(3,(tk 10)),(3,(tk 10)),(4,(Z 22)),(4,(Z 22))],2),([(1,(tk 8)),(3,(tk 9)),(3,(tk 9)),(3,(tk 10)),(4,(Z 23)),(4,(Z 23))],2),([(1,(tk 8)),(3,(tk 9)),(3,(tk 9)),(3,(tk 10)),(4,(Z 24)),(4,(Z 24))],2),([(2,(tk 5)),(2,(Z 31)),(2,(Z 31)),(3,(tk 9)),(4,(tk 11)),(4,(tk 11))],2)] [(1,(tk 8)),(3,(tk 9)),(3,(Z 32)),(3,(Z 32)),(4,(tk 11)),(4,(tk 11))] 2 0 true) [108,27,12,13,14,15,16,19,20,21,22,23,26] s m i
noncomputable def rl4_e16 (Pw:Params)(tk vv:Nat→Nat)(s m i:Nat):Ev:=evX (fun J Z=>X_in [([(2,(tk 6)),(2,(tk 6)),(3,(tk 7)),(3,(tk 7)),(3,(Z 9)),(3,(Z 9))],2),([(2,(tk 5)),(2,(tk 6)),(3,(tk 7)),(3,(tk 7)),(3,(Z 10)),(3,(Z 10))],2),([(2,(tk 5)),(2,(tk 6)),(3,(tk 7)),(3,(tk 7)),(3,(Z 11)),(3,(Z 11))],2),([(2,(tk 5)),(2,(tk 6)),(2,(tk 6)),(3,(tk 7)),(4,(Z 12)),(4,(Z 12))],2),([(2,(tk 5)),(2,(tk 6)),(2,(tk 6)),(3,(tk 7)),(4,(Z 13)),(4,(Z 13))],2),([(2,(Z 20)),(2,(Z 20)),(3,(tk 9)),(3,(tk 9)),(3,(tk 10)),(3,(tk 10))],2),([(1,(tk 8)),(3,(tk 9)),(3,(tk 10)),(3,(tk 10)),(4,(Z 21)),(4,(Z 21))],2),([(1,(tk 8)),(3,(tk 9)),(3,(tk 10)),(3,(tk 10)),(4,(Z 22)),(4,(Z 22))],2),([(1,(tk 8)),(3,(tk 9)),(3,(tk 9)),(3,(tk 10)),(4,(Z 23)),(4,(Z 23))],2),([(1,(tk 8)),(3,(tk 9)),(3,(tk 9)),(3,(tk 10)),(4,(Z 24)),(4,(Z 24))],2),([(2,(tk 5)),(2,(Z 31)),(2,(Z 31)),(3,(tk 9)),(4,(tk 11)),(4,(tk 11))],2),([(1,(tk 8)),(3,(tk 9)),(3,(Z 32)),(3,(Z 32)),(4,(tk 11)),(4,(tk 11))],2)] [(1,(tk 8)),(2,(tk 5)),(4,(tk 11)),(4,(tk 11)),(4,(Z 33)),(4,(Z 33))] 2 0 false) [114,28,12,13,14,15,16,19,20,21,22,23,26,27] s m i
noncomputable def rl4_e17 (Pw:Params)(tk vv:Nat→Nat)(s m i:Nat):Ev:=evX (fun J Z=>X_in [([(2,(tk 6)),(2,(tk 6)),(3,(tk 7)),(3,(tk 7)),(3,(Z 9)),(3,(Z 9))],2),([(2,(tk 5)),(2,(tk 6)),(3,(tk 7)),(3,(tk 7)),(3,(Z 10)),(3,(Z 10))],2),([(2,(tk 5)),(2,(tk 6)),(3,(tk 7)),(3,(tk 7)),(3,(Z 11)),(3,(Z 11))],2),([(2,(tk 5)),(2,(tk 6)),(2,(tk 6)),(3,(tk 7)),(4,(Z 12)),(4,(Z 12))],2),([(2,(tk 5)),(2,(tk 6)),(2,(tk 6)),(3,(tk 7)),(4,(Z 13)),(4,(Z 13))],2),([(2,(Z 20)),(2,(Z 20)),(3,(tk 9)),(3,(tk 9)),(3,(tk 10)),(3,(tk 10))],2),([(1,(tk 8)),(3,(tk 9)),(3,(tk 10)),(3,(tk 10)),(4,(Z 21)),(4,(Z 21))],2),([(1,(tk 8)),(3,(tk 9)),(3,(tk 10)),(3,(tk 10)),(4,(Z 22)),(4,(Z 22))],2),([(1,(tk 8)),(3,(tk 9)),(3,(tk 9)),(3,(tk 10)),(4,(Z 23)),(4,(Z 23))],2),([(1,(tk 8)),(3,(tk 9)),(3,(tk 9)),(3,(tk 10)),(4,(Z 24)),(4,(Z 24))],2),([(2,(tk 5)),(2,(Z 31)),(2,(Z 31)),(3,(tk 9)),(4,(tk 11)),(4,(tk 11))],2),([(1,(tk 8)),(3,(tk 9)),(3,(Z 32)),(3,(Z 32)),(4,(tk 11)),(4,(tk 11))],2),([(1,(tk 8)),(2,(tk 5)),(4,(tk 11)),(4,(tk 11)),(4,(Z 33)),(4,(Z 33))],2)] [(1,(tk 8)),(2,(tk 5)),(3,(tk 9)),(4,(tk 11)),(5,(Z 34)),(5,(Z 34))] 2 0 false) [120,29,12,13,14,15,16,19,20,21,22,23,26,27,28] s m i
noncomputable def rl4_e18 (Pw:Params)(tk vv:Nat→Nat)(s m i:Nat):Ev:=evX (fun J Z=>X_in [([(2,(tk 6)),(2,(tk 6)),(3,(tk 7)),(3,(tk 7)),(3,(Z 9)),(3,(Z 9))],2),([(2,(tk 5)),(2,(tk 6)),(3,(tk 7)),(3,(tk 7)),(3,(Z 10)),(3,(Z 10))],2),([(2,(tk 5)),(2,(tk 6)),(3,(tk 7)),(3,(tk 7)),(3,(Z 11)),(3,(Z 11))],2),([(2,(tk 5)),(2,(tk 6)),(2,(tk 6)),(3,(tk 7)),(4,(Z 12)),(4,(Z 12))],2),([(2,(tk 5)),(2,(tk 6)),(2,(tk 6)),(3,(tk 7)),(4,(Z 13)),(4,(Z 13))],2),([(2,(Z 20)),(2,(Z 20)),(3,(tk 9)),(3,(tk 9)),(3,(tk 10)),(3,(tk 10))],2),([(1,(tk 8)),(3,(tk 9)),(3,(tk 10)),(3,(tk 10)),(4,(Z 21)),(4,(Z 21))],2),([(1,(tk 8)),(3,(tk 9)),(3,(tk 10)),(3,(tk 10)),(4,(Z 22)),(4,(Z 22))],2),([(1,(tk 8)),(3,(tk 9)),(3,(tk 9)),(3,(tk 10)),(4,(Z 23)),(4,(Z 23))],2),([(1,(tk 8)),(3,(tk 9)),(3,(tk 9)),(3,(tk 10)),(4,(Z 24)),(4,(Z 24))],2),([(2,(tk 5)),(2,(Z 31)),(2,(Z 31)),(3,(tk 9)),(4,(tk 11)),(4,(tk 11))],2),([(1,(tk 8)),(3,(tk 9)),(3,(Z 32)),(3,(Z 32)),(4,(tk 11)),(4,(tk 11))],2),([(1,(tk 8)),(2,(tk 5)),(4,(tk 11)),(4,(tk 11)),(4,(Z 33)),(4,(Z 33))],2),([(1,(tk 8)),(2,(tk 5)),(3,(tk 9)),(4,(tk 11)),(5,(Z 34)),(5,(Z 34))],2)] [(1,(tk 8)),(2,(tk 5)),(3,(tk 9)),(4,(tk 11)),(5,(Z 35)),(5,(Z 35))] 2 0 true) [126,30,12,13,14,15,16,19,20,21,22,23,26,27,28,29] s m i
noncomputable def rl4_e19 (Pw:Params)(tk vv:Nat→Nat)(s m i:Nat):Ev:=evX (fun J Z=>X_rl5 Pw (pick [(tk 0),(tk 1),(tk 2),(tk 3),(Z 0)] 0) (pick [(J 35),(J 8)] 0)) [0,1,2] s m i
noncomputable def rl4_hs (b1 b2:Bool):List Nat:=(match b1,b2 with | true,true=>[3,3,3,3,3,3,3,3,3,1,1,1,4,4,4,8,8,8,8,8,4,8,8,10,10,0,0,0,0,10,5,5,5,11,11,11,11,11,11,11,11,11,11,12,8,8,8,8,4,8,8,10,10,0,0,0,0,10,6,6,6,18,18,18,18,18,18,18,18,18,18,19,8,8,8,8,4,8,8,10,10,0,0,0,0,10,7,7,7,25,25,25,25,25,25,25,25,25,25,26,8,8,8,8,4,8,8,33,10,10,10,10,10,10,2,2,0,0,2,35,35,35,35,35,35,35,35,35,35,35,34,34,34,34,9,34,34,35,35,35,35,35,35,35,35,35,35,35,35,35,35,35,38,38,38,38,35,38,38,38,38,39,39,39,39,39,38,39,39,39,39,39,39,38,39,39,39,39,39,39,38,39,39,41,37,37,37,37,37,2,37,9,9,9,9,42,42,42,42,42,9,43,43,43,37,36,36,36,36,35,35,35,34,34,34,34,9,34,34,35,35,35,35,35,35,35,35,35,35,35,35,35,35,35,44,44,44,44,35,44,44,44,44,45,45,45,45,45,44,45,45,45,45,45,45,44,45,45,45,45,45,45,44,45,45,47,37,37,37,37,37,2,37,9,9,9,9,48,48,48,48,48,9,49,49,49,35,35,35,34,34,34,34,9,34,34,35,35,35,35,35,35,35,35,35,35,35,35,35,35,35,50,50,50,50,35,50,50,50,50,51,51,51,51,51,50,51,51,51,51,51,51,50,51,51,51,51,51,51,50,51,51,53,37,37,37,37,37,2,37,9,9,9,9,54,54,54,54,54,9,55,55,55,35,35,35,34,34,34,34,9,34,34,35,35,35,35,35,35,35,35,35,35,35,35,35,35,35,56,56,56,56,35,56,56,56,56,57,57,57,57,57,56,57,57,57,57,57,57,56,57,57,57,57,57,57,56,57,57,59,37,37,37,37,37,2,37,9,9,9,9,60,60,60,60,60,9,61,61,61,37,36,36,36,36,35,35,35,34,34,34,34,9,34,34,35,35,35,35,35,35,35,35,35,35,35,35,35,35,35,62,62,62,62,35,62,62,62,62,63,63,63,63,63,62,63,63,63,63,63,63,62,63,63,63,63,63,63,62,63,63,65,37,37,37,37,37,2,37,9,9,9,9,66,66,66,66,66,9,67,67,67,35,35,35,34,34,34,34,9,34,34,35,35,35,35,35,35,35,35,35,35,35,35,35,35,35,68,68,68,68,35,68,68,68,68,69,69,69,69,69,68,69,69,69,69,69,69,68,69,69,69,69,69,69,68,69,69,71,37,37,37,37,37,2,37,9,9,9,9,72,72,72,72,72,9,73,73,73,35,35,35,34,34,34,34,9,34,34,35,35,35,35,35,35,35,35,35,35,35,35,35,35,35,74,74,74,74,35,74,74,74,74,75,75,75,75,75,74,75,75,75,75,75,75,74,75,75,75,75,75,75,74,75,75,77,37,37,37,37,37,2,37,9,9,9,9,78,78,78,78,78,9,79,79,79,37,36,36,36,36,35,35,35,34,34,34,34,9,34,34,35,35,35,35,35,35,35,35,35,35,35,35,35,35,35,80,80,80,80,35,80,80,80,80,81,81,81,81,81,80,81,81,81,81,81,81,80,81,81,81,81,81,81,80,81,81,83,37,37,37,37,37,2,37,9,9,9,9,84,84,84,84,84,9,85,85,85,35,35,35,34,34,34,34,9,34,34,35,35,35,35,35,35,35,35,35,35,35,35,35,35,35,86,86,86,86,35,86,86,86,86,87,87,87,87,87,86,87,87,87,87,87,87,86,87,87,87,87,87,87,86,87,87,89,37,37,37,37,37,2,37,9,9,9,9,90,90,90,90,90,9,91,91,91,35,35,35,34,34,34,34,9,34,34,35,35,35,35,35,35,35,35,35,35,35,35,35,35,35,92,92,92,92,35,92,92,92,92,93,93,93,93,93,92,93,93,93,93,93,93,92,93,93,93,93,93,93,92,93,93,95,37,37,37,37,37,2,37,9,9,9,9,96,96,96,96,96,9,97,97,97,35,35,35,34,34,34,34,9,34,34,35,35,35,35,35,35,35,35,35,35,35,35,35,35,35,98,98,98,98,35,98,98,98,98,99,99,99,99,99,98,99,99,99,99,99,99,98,99,99,99,99,99,99,98,99,99,101,37,37,37,37,37,2,37,9,9,9,9,102,102,102,102,102,9,103,103,103,35,35,35,34,34,34,34,9,34,34,35,35,35,35,35,35,35,35,35,35,35,35,35,35,35,104,104,104,104,35,104,104,104,104,105,105,105,105,105,104,105,105,105,105,105,105,104,105,105,105,105,105,105,104,105,105,107,37,37,37,37,37,2,37,9,9,9,9,108,108,108,108,108,9,109,109,109,35,35,35,34,34,34,34,9,34,34,35,35,35,35,35,35,35,35,35,35,35,35,35,35,35,110,110,110,110,35,110,110,110,110,111,111,111,111,111,110,111,111,111,111,111,111,110,111,111,111,111,111,111,110,111,111,113,37,37,37,37,37,2,37,9,9,9,9,114,114,114,114,114,9,115,115,115,37,36,36,36,36,35,35,35,34,34,34,34,9,34,34,35,35,35,35,35,35,35,35,35,35,35,35,35,35,35,116,116,116,116,35,116,116,116,116,117,117,117,117,117,116,117,117,117,117,117,117,116,117,117,117,117,117,117,116,117,117,119,37,37,37,37,37,2,37,9,9,9,9,120,120,120,120,120,9,121,121,121,37,36,36,36,36,35,35,35,34,34,34,34,9,34,34,35,35,35,35,35,35,35,35,35,35,35,35,35,35,35,122,122,122,122,35,122,122,122,122,123,123,123,123,123,122,123,123,123,123,123,123,122,123,123,123,123,123,123,122,123,123,125,37,37,37,37,37,2,37,9,9,9,9,126,126,126,126,126,9,127,127,127,35,35,35,34,34,34,34,9,34,34,129,1,1,37,37,37,37,37,37] | true,false=>[3,3,3,3,3,3,3,3,3,1,1,1,4,4,4,8,8,8,8,8,8,8,8,8,4,8,8,10,10,0,0,0,0,10,5,5,5,11,11,11,11,11,11,11,11,11,11,12,12,12,12,12,8,8,8,8,4,8,8,10,10,0,0,0,0,10,6,6,6,18,18,18,18,18,18,18,18,18,18,19,19,19,19,19,8,8,8,8,4,8,8,10,10,0,0,0,0,10,7,7,7,25,25,25,25,25,25,25,25,25,25,26,26,26,26,26,8,8,8,8,4,8,8,33,10,10,10,10,10,10,2,2,0,0,2,35,35,35,35,35,35,35,35,35,35,35,35,35,35,35,34,34,34,34,9,34,34,35,35,35,35,35,35,35,35,35,35,35,35,35,35,35,38,38,38,38,35,38,38,38,38,39,39,39,39,39,38,39,39,39,39,39,39,38,39,39,39,39,39,39,38,39,39,41,37,37,37,37,37,2,37,9,9,9,9,42,42,42,42,42,9,43,43,43,37,36,36,36,36,35,35,35,34,34,34,34,9,34,34,35,35,35,35,35,35,35,35,35,35,35,35,35,35,35,44,44,44,44,35,44,44,44,44,45,45,45,45,45,44,45,45,45,45,45,45,44,45,45,45,45,45,45,44,45,45,47,37,37,37,37,37,2,37,9,9,9,9,48,48,48,48,48,9,49,49,49,35,35,35,34,34,34,34,9,34,34,35,35,35,35,35,35,35,35,35,35,35,35,35,35,35,50,50,50,50,35,50,50,50,50,51,51,51,51,51,50,51,51,51,51,51,51,50,51,51,51,51,51,51,50,51,51,53,37,37,37,37,37,2,37,9,9,9,9,54,54,54,54,54,9,55,55,55,35,35,35,34,34,34,34,9,34,34,35,35,35,35,35,35,35,35,35,35,35,35,35,35,35,56,56,56,56,35,56,56,56,56,57,57,57,57,57,56,57,57,57,57,57,57,56,57,57,57,57,57,57,56,57,57,59,37,37,37,37,37,2,37,9,9,9,9,60,60,60,60,60,9,61,61,61,37,36,36,36,36,35,35,35,34,34,34,34,9,34,34,35,35,35,35,35,35,35,35,35,35,35,35,35,35,35,62,62,62,62,35,62,62,62,62,63,63,63,63,63,62,63,63,63,63,63,63,62,63,63,63,63,63,63,62,63,63,65,37,37,37,37,37,2,37,9,9,9,9,66,66,66,66,66,9,67,67,67,35,35,35,34,34,34,34,9,34,34,35,35,35,35,35,35,35,35,35,35,35,35,35,35,35,68,68,68,68,35,68,68,68,68,69,69,69,69,69,68,69,69,69,69,69,69,68,69,69,69,69,69,69,68,69,69,71,37,37,37,37,37,2,37,9,9,9,9,72,72,72,72,72,9,73,73,73,35,35,35,34,34,34,34,9,34,34,35,35,35,35,35,35,35,35,35,35,35,35,35,35,35,74,74,74,74,35,74,74,74,74,75,75,75,75,75,74,75,75,75,75,75,75,74,75,75,75,75,75,75,74,75,75,77,37,37,37,37,37,2,37,9,9,9,9,78,78,78,78,78,9,79,79,79,37,36,36,36,36,35,35,35,34,34,34,34,9,34,34,35,35,35,35,35,35,35,35,35,35,35,35,35,35,35,80,80,80,80,35,80,80,80,80,81,81,81,81,81,80,81,81,81,81,81,81,80,81,81,81,81,81,81,80,81,81,83,37,37,37,37,37,2,37,9,9,9,9,84,84,84,84,84,9,85,85,85,35,35,35,34,34,34,34,9,34,34,35,35,35,35,35,35,35,35,35,35,35,35,35,35,35,86,86,86,86,35,86,86,86,86,87,87,87,87,87,86,87,87,87,87,87,87,86,87,87,87,87,87,87,86,87,87,89,37,37,37,37,37,2,37,9,9,9,9,90,90,90,90,90,9,91,91,91,35,35,35,34,34,34,34,9,34,34,35,35,35,35,35,35,35,35,35,35,35,35,35,35,35,92,92,92,92,35,92,92,92,92,93,93,93,93,93,92,93,93,93,93,93,93,92,93,93,93,93,93,93,92,93,93,95,37,37,37,37,37,2,37,9,9,9,9,96,96,96,96,96,9,97,97,97,35,35,35,34,34,34,34,9,34,34,35,35,35,35,35,35,35,35,35,35,35,35,35,35,35,98,98,98,98,35,98,98,98,98,99,99,99,99,99,98,99,99,99,99,99,99,98,99,99,99,99,99,99,98,99,99,101,37,37,37,37,37,2,37,9,9,9,9,102,102,102,102,102,9,103,103,103,35,35,35,34,34,34,34,9,34,34,35,35,35,35,35,35,35,35,35,35,35,35,35,35,35,104,104,104,104,35,104,104,104,104,105,105,105,105,105,104,105,105,105,105,105,105,104,105,105,105,105,105,105,104,105,105,107,37,37,37,37,37,2,37,9,9,9,9,108,108,108,108,108,9,109,109,109,35,35,35,34,34,34,34,9,34,34,35,35,35,35,35,35,35,35,35,35,35,35,35,35,35,110,110,110,110,35,110,110,110,110,111,111,111,111,111,110,111,111,111,111,111,111,110,111,111,111,111,111,111,110,111,111,113,37,37,37,37,37,2,37,9,9,9,9,114,114,114,114,114,9,115,115,115,37,36,36,36,36,35,35,35,34,34,34,34,9,34,34,35,35,35,35,35,35,35,35,35,35,35,35,35,35,35,116,116,116,116,35,116,116,116,116,117,117,117,117,117,116,117,117,117,117,117,117,116,117,117,117,117,117,117,116,117,117,119,37,37,37,37,37,2,37,9,9,9,9,120,120,120,120,120,9,121,121,121,37,36,36,36,36,35,35,35,34,34,34,34,9,34,34,35,35,35,35,35,35,35,35,35,35,35,35,35,35,35,122,122,122,122,35,122,122,122,122,123,123,123,123,123,122,123,123,123,123,123,123,122,123,123,123,123,123,123,122,123,123,125,37,37,37,37,37,2,37,9,9,9,9,126,126,126,126,126,9,127,127,127,35,35,35,34,34,34,34,9,34,34,129,1,1,37,37,37,37,37,37] | false,true=>[3,3,3,3,3,3,3,3,3,1,1,1,4,4,4,8,8,8,8,8,4,8,8,10,10,0,0,0,0,10,5,5,5,11,11,11,11,11,11,11,11,11,11,12,8,8,8,8,4,8,8,10,10,0,0,0,0,10,6,6,6,18,18,18,18,18,18,18,18,18,18,19,8,8,8,8,4,8,8,10,10,0,0,0,0,10,7,7,7,25,25,25,25,25,25,25,25,25,25,26,8,8,8,8,4,8,8,33,10,10,10,10,10,10,2,2,0,0,2,35,35,35,35,35,35,35,35,35,35,35,34,34,34,34,9,34,34,35,35,35,35,35,35,35,35,35,35,35,35,35,35,35,38,38,38,38,35,38,38,38,38,39,39,39,39,39,38,39,39,39,39,39,39,38,39,39,39,39,39,39,38,39,39,41,37,37,37,37,37,2,37,9,9,9,9,42,42,42,42,42,9,43,43,43,37,36,36,36,36,35,35,35,34,34,34,34,9,34,34,35,35,35,35,35,35,35,35,35,35,35,35,35,35,35,44,44,44,44,35,44,44,44,44,45,45,45,45,45,44,45,45,45,45,45,45,44,45,45,45,45,45,45,44,45,45,47,37,37,37,37,37,2,37,9,9,9,9,48,48,48,48,48,9,49,49,49,35,35,35,34,34,34,34,9,34,34,35,35,35,35,35,35,35,35,35,35,35,35,35,35,35,50,50,50,50,35,50,50,50,50,51,51,51,51,51,50,51,51,51,51,51,51,50,51,51,51,51,51,51,50,51,51,53,37,37,37,37,37,2,37,9,9,9,9,54,54,54,54,54,9,55,55,55,35,35,35,34,34,34,34,9,34,34,35,35,35,35,35,35,35,35,35,35,35,35,35,35,35,56,56,56,56,35,56,56,56,56,57,57,57,57,57,56,57,57,57,57,57,57,56,57,57,57,57,57,57,56,57,57,59,37,37,37,37,37,2,37,9,9,9,9,60,60,60,60,60,9,61,61,61,37,36,36,36,36,35,35,35,34,34,34,34,9,34,34,35,35,35,35,35,35,35,35,35,35,35,35,35,35,35,62,62,62,62,35,62,62,62,62,63,63,63,63,63,62,63,63,63,63,63,63,62,63,63,63,63,63,63,62,63,63,65,37,37,37,37,37,2,37,9,9,9,9,66,66,66,66,66,9,67,67,67,35,35,35,34,34,34,34,9,34,34,35,35,35,35,35,35,35,35,35,35,35,35,35,35,35,68,68,68,68,35,68,68,68,68,69,69,69,69,69,68,69,69,69,69,69,69,68,69,69,69,69,69,69,68,69,69,71,37,37,37,37,37,2,37,9,9,9,9,72,72,72,72,72,9,73,73,73,35,35,35,34,34,34,34,9,34,34,35,35,35,35,35,35,35,35,35,35,35,35,35,35,35,74,74,74,74,35,74,74,74,74,75,75,75,75,75,74,75,75,75,75,75,75,74,75,75,75,75,75,75,74,75,75,77,37,37,37,37,37,2,37,9,9,9,9,78,78,78,78,78,9,79,79,79,37,36,36,36,36,35,35,35,34,34,34,34,9,34,34,35,35,35,35,35,35,35,35,35,35,35,35,35,35,35,80,80,80,80,35,80,80,80,80,81,81,81,81,81,80,81,81,81,81,81,81,80,81,81,81,81,81,81,80,81,81,83,37,37,37,37,37,2,37,9,9,9,9,84,84,84,84,84,9,85,85,85,35,35,35,34,34,34,34,9,34,34,35,35,35,35,35,35,35,35,35,35,35,35,35,35,35,86,86,86,86,35,86,86,86,86,87,87,87,87,87,86,87,87,87,87,87,87,86,87,87,87,87,87,87,86,87,87,89,37,37,37,37,37,2,37,9,9,9,9,90,90,90,90,90,9,91,91,91,35,35,35,34,34,34,34,9,34,34,35,35,35,35,35,35,35,35,35,35,35,35,35,35,35,92,92,92,92,35,92,92,92,92,93,93,93,93,93,92,93,93,93,93,93,93,92,93,93,93,93,93,93,92,93,93,95,37,37,37,37,37,2,37,9,9,9,9,96,96,96,96,96,9,97,97,97,35,35,35,34,34,34,34,9,34,34,35,35,35,35,35,35,35,35,35,35,35,35,35,35,35,98,98,98,98,35,98,98,98,98,99,99,99,99,99,98,99,99,99,99,99,99,98,99,99,99,99,99,99,98,99,99,101,37,37,37,37,37,2,37,9,9,9,9,102,102,102,102,102,9,103,103,103,35,35,35,34,34,34,34,9,34,34,35,35,35,35,35,35,35,35,35,35,35,35,35,35,35,104,104,104,104,35,104,104,104,104,105,105,105,105,105,104,105,105,105,105,105,105,104,105,105,105,105,105,105,104,105,105,107,37,37,37,37,37,2,37,9,9,9,9,108,108,108,108,108,9,109,109,109,35,35,35,34,34,34,34,9,34,34,35,35,35,35,35,35,35,35,35,35,35,35,35,35,35,110,110,110,110,35,110,110,110,110,111,111,111,111,111,110,111,111,111,111,111,111,110,111,111,111,111,111,111,110,111,111,113,37,37,37,37,37,2,37,9,9,9,9,114,114,114,114,114,9,115,115,115,37,36,36,36,36,35,35,35,34,34,34,34,9,34,34,35,35,35,35,35,35,35,35,35,35,35,35,35,35,35,116,116,116,116,35,116,116,116,116,117,117,117,117,117,116,117,117,117,117,117,117,116,117,117,117,117,117,117,116,117,117,119,37,37,37,37,37,2,37,9,9,9,9,120,120,120,120,120,9,121,121,121,37,36,36,36,36,35,35,35,34,34,34,34,9,34,34,35,35,35,35,35,35,35,35,35,35,35,35,35,35,35,122,122,122,122,35,122,122,122,122,123,123,123,123,123,122,123,123,123,123,123,123,122,123,123,123,123,123,123,122,123,123,125,37,37,37,37,37,2,37,9,9,9,9,126,126,126,126,126,9,127,127,127,35,35,35,34,34,34,34,9,34,34,129,1,1,37,37,37,37,37,37] | false,false=>[3,3,3,3,3,3,3,3,3,1,1,1,4,4,4,8,8,8,8,8,8,8,8,8,4,8,8,10,10,0,0,0,0,10,5,5,5,11,11,11,11,11,11,11,11,11,11,12,12,12,12,12,8,8,8,8,4,8,8,10,10,0,0,0,0,10,6,6,6,18,18,18,18,18,18,18,18,18,18,19,19,19,19,19,8,8,8,8,4,8,8,10,10,0,0,0,0,10,7,7,7,25,25,25,25,25,25,25,25,25,25,26,26,26,26,26,8,8,8,8,4,8,8,33,10,10,10,10,10,10,2,2,0,0,2,35,35,35,35,35,35,35,35,35,35,35,35,35,35,35,34,34,34,34,9,34,34,35,35,35,35,35,35,35,35,35,35,35,35,35,35,35,38,38,38,38,35,38,38,38,38,39,39,39,39,39,38,39,39,39,39,39,39,38,39,39,39,39,39,39,38,39,39,41,37,37,37,37,37,2,37,9,9,9,9,42,42,42,42,42,9,43,43,43,37,36,36,36,36,35,35,35,34,34,34,34,9,34,34,35,35,35,35,35,35,35,35,35,35,35,35,35,35,35,44,44,44,44,35,44,44,44,44,45,45,45,45,45,44,45,45,45,45,45,45,44,45,45,45,45,45,45,44,45,45,47,37,37,37,37,37,2,37,9,9,9,9,48,48,48,48,48,9,49,49,49,35,35,35,34,34,34,34,9,34,34,35,35,35,35,35,35,35,35,35,35,35,35,35,35,35,50,50,50,50,35,50,50,50,50,51,51,51,51,51,50,51,51,51,51,51,51,50,51,51,51,51,51,51,50,51,51,53,37,37,37,37,37,2,37,9,9,9,9,54,54,54,54,54,9,55,55,55,35,35,35,34,34,34,34,9,34,34,35,35,35,35,35,35,35,35,35,35,35,35,35,35,35,56,56,56,56,35,56,56,56,56,57,57,57,57,57,56,57,57,57,57,57,57,56,57,57,57,57,57,57,56,57,57,59,37,37,37,37,37,2,37,9,9,9,9,60,60,60,60,60,9,61,61,61,37,36,36,36,36,35,35,35,34,34,34,34,9,34,34,35,35,35,35,35,35,35,35,35,35,35,35,35,35,35,62,62,62,62,35,62,62,62,62,63,63,63,63,63,62,63,63,63,63,63,63,62,63,63,63,63,63,63,62,63,63,65,37,37,37,37,37,2,37,9,9,9,9,66,66,66,66,66,9,67,67,67,35,35,35,34,34,34,34,9,34,34,35,35,35,35,35,35,35,35,35,35,35,35,35,35,35,68,68,68,68,35,68,68,68,68,69,69,69,69,69,68,69,69,69,69,69,69,68,69,69,69,69,69,69,68,69,69,71,37,37,37,37,37,2,37,9,9,9,9,72,72,72,72,72,9,73,73,73,35,35,35,34,34,34,34,9,34,34,35,35,35,35,35,35,35,35,35,35,35,35,35,35,35,74,74,74,74,35,74,74,74,74,75,75,75,75,75,74,75,75,75,75,75,75,74,75,75,75,75,75,75,74,75,75,77,37,37,37,37,37,2,37,9,9,9,9,78,78,78,78,78,9,79,79,79,37,36,36,36,36,35,35,35,34,34,34,34,9,34,34,35,35,35,35,35,35,35,35,35,35,35,35,35,35,35,80,80,80,80,35,80,80,80,80,81,81,81,81,81,80,81,81,81,81,81,81,80,81,81,81,81,81,81,80,81,81,83,37,37,37,37,37,2,37,9,9,9,9,84,84,84,84,84,9,85,85,85,35,35,35,34,34,34,34,9,34,34,35,35,35,35,35,35,35,35,35,35,35,35,35,35,35,86,86,86,86,35,86,86,86,86,87,87,87,87,87,86,87,87,87,87,87,87,86,87,87,87,87,87,87,86,87,87,89,37,37,37,37,37,2,37,9,9,9,9,90,90,90,90,90,9,91,91,91,35,35,35,34,34,34,34,9,34,34,35,35,35,35,35,35,35,35,35,35,35,35,35,35,35,92,92,92,92,35,92,92,92,92,93,93,93,93,93,92,93,93,93,93,93,93,92,93,93,93,93,93,93,92,93,93,95,37,37,37,37,37,2,37,9,9,9,9,96,96,96,96,96,9,97,97,97,35,35,35,34,34,34,34,9,34,34,35,35,35,35,35,35,35,35,35,35,35,35,35,35,35,98,98,98,98,35,98,98,98,98,99,99,99,99,99,98,99,99,99,99,99,99,98,99,99,99,99,99,99,98,99,99,101,37,37,37,37,37,2,37,9,9,9,9,102,102,102,102,102,9,103,103,103,35,35,35,34,34,34,34,9,34,34,35,35,35,35,35,35,35,35,35,35,35,35,35,35,35,104,104,104,104,35,104,104,104,104,105,105,105,105,105,104,105,105,105,105,105,105,104,105,105,105,105,105,105,104,105,105,107,37,37,37,37,37,2,37,9,9,9,9,108,108,108,108,108,9,109,109,109,35,35,35,34,34,34,34,9,34,34,35,35,35,35,35,35,35,35,35,35,35,35,35,35,35,110,110,110,110,35,110,110,110,110,111,111,111,111,111,110,111,111,111,111,111,111,110,111,111,111,111,111,111,110,111,111,113,37,37,37,37,37,2,37,9,9,9,9,114,114,114,114,114,9,115,115,115,37,36,36,36,36,35,35,35,34,34,34,34,9,34,34,35,35,35,35,35,35,35,35,35,35,35,35,35,35,35,116,116,116,116,35,116,116,116,116,117,117,117,117,117,116,117,117,117,117,117,117,116,117,117,117,117,117,117,116,117,117,119,37,37,37,37,37,2,37,9,9,9,9,120,120,120,120,120,9,121,121,121,37,36,36,36,36,35,35,35,34,34,34,34,9,34,34,35,35,35,35,35,35,35,35,35,35,35,35,35,35,35,122,122,122,122,35,122,122,122,122,123,123,123,123,123,122,123,123,123,123,123,123,122,123,123,123,123,123,123,122,123,123,125,37,37,37,37,37,2,37,9,9,9,9,126,126,126,126,126,9,127,127,127,35,35,35,34,34,34,34,9,34,34,129,1,1,37,37,37,37,37,37])
noncomputable def rl4_cs (Pw:Params)(tk vv:Nat→Nat)(b1 b2:Bool):List Ev:=(match b1,b2 with | true,true=>[rl4_e0 Pw tk vv 21 12 7,rl4_e1 Pw tk vv 16 19 19,rl4_e2 Pw tk vv 16 26 30,rl4_e3 Pw tk vv 6 33 36,rl4_e4 Pw tk vv 21 43 39,rl4_e5 Pw tk vv 18 49 42,rl4_e6 Pw tk vv 16 55 45,rl4_e7 Pw tk vv 16 61 48,rl4_e8 Pw tk vv 18 67 51,rl4_e9 Pw tk vv 16 73 54,rl4_e10 Pw tk vv 16 79 57,rl4_e11 Pw tk vv 18 85 60,rl4_e12 Pw tk vv 16 91 63,rl4_e13 Pw tk vv 16 97 66,rl4_e14 Pw tk vv 16 103 69,rl4_e15 Pw tk vv 16 109 72,rl4_e16 Pw tk vv 16 115 75,rl4_e17 Pw tk vv 18 121 78,rl4_e18 Pw tk vv 18 127 81,rl4_e19 Pw tk vv 5 129 82] | true,false=>[rl4_e0 Pw tk vv 25 12 7,rl4_e1 Pw tk vv 18 19 19,rl4_e2 Pw tk vv 18 26 30,rl4_e3 Pw tk vv 6 33 36,rl4_e4 Pw tk vv 23 43 39,rl4_e5 Pw tk vv 18 49 42,rl4_e6 Pw tk vv 16 55 45,rl4_e7 Pw tk vv 16 61 48,rl4_e8 Pw tk vv 18 67 51,rl4_e9 Pw tk vv 16 73 54,rl4_e10 Pw tk vv 16 79 57,rl4_e11 Pw tk vv 18 85 60,rl4_e12 Pw tk vv 16 91 63,rl4_e13 Pw tk vv 16 97 66,rl4_e14 Pw tk vv 16 103 69,rl4_e15 Pw tk vv 16 109 72,rl4_e16 Pw tk vv 16 115 75,rl4_e17 Pw tk vv 18 121 78,rl4_e18 Pw tk vv 18 127 81,rl4_e19 Pw tk vv 5 129 82] | false,true=>[rl4_e0 Pw tk vv 21 12 7,rl4_e1 Pw tk vv 16 19 19,rl4_e2 Pw tk vv 16 26 30,rl4_e3 Pw tk vv 6 33 36,rl4_e4 Pw tk vv 21 43 39,rl4_e5 Pw tk vv 18 49 42,rl4_e6 Pw tk vv 16 55 45,rl4_e7 Pw tk vv 16 61 48,rl4_e8 Pw tk vv 18 67 51,rl4_e9 Pw tk vv 16 73 54,rl4_e10 Pw tk vv 16 79 57,rl4_e11 Pw tk vv 18 85 60,rl4_e12 Pw tk vv 16 91 63,rl4_e13 Pw tk vv 16 97 66,rl4_e14 Pw tk vv 16 103 69,rl4_e15 Pw tk vv 16 109 72,rl4_e16 Pw tk vv 16 115 75,rl4_e17 Pw tk vv 18 121 78,rl4_e18 Pw tk vv 18 127 81,rl4_e19 Pw tk vv 5 129 82] | false,false=>[rl4_e0 Pw tk vv 25 12 7,rl4_e1 Pw tk vv 18 19 19,rl4_e2 Pw tk vv 18 26 30,rl4_e3 Pw tk vv 6 33 36,rl4_e4 Pw tk vv 23 43 39,rl4_e5 Pw tk vv 18 49 42,rl4_e6 Pw tk vv 16 55 45,rl4_e7 Pw tk vv 16 61 48,rl4_e8 Pw tk vv 18 67 51,rl4_e9 Pw tk vv 16 73 54,rl4_e10 Pw tk vv 16 79 57,rl4_e11 Pw tk vv 18 85 60,rl4_e12 Pw tk vv 16 91 63,rl4_e13 Pw tk vv 16 97 66,rl4_e14 Pw tk vv 16 103 69,rl4_e15 Pw tk vv 16 109 72,rl4_e16 Pw tk vv 16 115 75,rl4_e17 Pw tk vv 18 121 78,rl4_e18 Pw tk vv 18 127 81,rl4_e19 Pw tk vv 5 129 82])
theorem run_rl4 (tk vv:Nat→Nat)(Pw:Params):∀ (b1 b2:Bool) (J Z:Nu),RD (X_rl4 Pw tk vv) Pw b1 b2 2456 (rl4_hs b1 b2) (rl4_cs Pw tk vv b1 b2) [35,8,12,13,14,15,16,19,20,21,22,23,26,27,28,29,30] [0,9,10,11,12,13,20,21,22,23,24,31,32,33,34,35] J Z
  | true,true,J,Z=>by kernel_rfl
  | true,false,J,Z=>by kernel_rfl
  | false,true,J,Z=>by kernel_rfl
  | false,false,J,Z=>by kernel_rfl
theorem ok_rl4 (w:World){tk vv:Nat→Nat}  : (X_rl4 w.params tk vv).Ok w :=
  ok_of_run (hs:=rl4_hs (row1 w) (row2 w)) (cs:=rl4_cs w.params tk vv (row1 w) (row2 w)) (ns:=[35,8,12,13,14,15,16,19,20,21,22,23,26,27,28,29,30]) (ts:=[0,9,10,11,12,13,20,21,22,23,24,31,32,33,34,35]) ((show ∀ b1 b2,ValidAll prg w (gl w.params) (rl4_cs w.params tk vv b1 b2) from fun b1 b2=>by cases b1<;>cases b2<;>exact vc (fun J Z=>ok_ri5 w) rfl (vc (fun J Z=>ok_ri6 w) rfl (vc (fun J Z=>ok_ri7 w) rfl (vc (fun J Z=>ok_enum) rfl (vc (fun J Z=>ok_in rfl) rfl (vc (fun J Z=>ok_in rfl) rfl (vc (fun J Z=>ok_in rfl) rfl (vc (fun J Z=>ok_in rfl) rfl (vc (fun J Z=>ok_in rfl) rfl (vc (fun J Z=>ok_in rfl) rfl (vc (fun J Z=>ok_in rfl) rfl (vc (fun J Z=>ok_in rfl) rfl (vc (fun J Z=>ok_in rfl) rfl (vc (fun J Z=>ok_in rfl) rfl (vc (fun J Z=>ok_in rfl) rfl (vc (fun J Z=>ok_in rfl) rfl (vc (fun J Z=>ok_in rfl) rfl (vc (fun J Z=>ok_in rfl) rfl (vc (fun J Z=>ok_in rfl) rfl (vc (fun J Z=>ok_rl5 w) rfl (va_nil))))))))))))))))))))) _ _) rfl rfl (by decide) (show ∀ j∈([35,8,12,13,14,15,16,19,20,21,22,23,26,27,28,29,30]:List Nat),7≤j by decide) (run_rl4 tk vv w.params (row1 w) (row2 w))
noncomputable def X_rl3 (Pw:Params)(tk vv:Nat→Nat):Spec:={ n0:=6,k:=17,nt:=19,d:=384,code:=fun J=>.forLoop rwFor.1 (.ref (J 2)) rwFor.2 [] (rwE (J 0) (J 1)),pre:=fun J=>[frm [⟨hsh Pw sSize,.str sSize (tk 0),.int 6 (tk 1)⟩,⟨hsh Pw sRows,.str sRows (tk 2),.ref (J 3)⟩,⟨hsh Pw sK,.str sK (tk 3),.int 2 (tk 4)⟩] 3,cellO (.ref (vv 0)),riO (.int 3 0) (.int 2 0) (.int 1 0),lst [.ref (J 4),.ref (J 5)] 2,lst [.int 2 (tk 5),.int 2 (tk 5),.int 2 (tk 6),.int 2 (tk 6)] 2,lst [.int 1 (tk 7),.int 2 (tk 5),.int 3 (tk 8),.int 3 (tk 8)] 2],res:=fun J Z=>.ok .next,post:=fun J Z=>[frm [⟨hsh Pw sSize,.str sSize (tk 0),.int 6 (tk 1)⟩,⟨hsh Pw sRows,.str sRows (tk 2),.ref (J 6)⟩,⟨hsh Pw sK,.str sK (tk 3),.int 4 (Z 0)⟩] 3,cellO (.ref (J 7)),riO (.int 5 0) (.int 0 0) (.int 1 0),lst [.ref (J 4),.ref (J 5)] 2,lst [.int 2 (tk 5),.int 2 (tk 5),.int 2 (tk 6),.int 2 (tk 6)] 2,lst [.int 1 (tk 7),.int 2 (tk 5),.int 3 (tk 8),.int 3 (tk 8)] 2],new:=fun J Z=>[lst [.ref (J 8),.ref (J 11),.ref (J 14),.ref (J 20),.ref (J 21)] 5,lst [.ref (J 8),.ref (J 9),.ref (J 10),.ref (J 11),.ref (J 12),.ref (J 13),.ref (J 14),.ref (J 15),.ref (J 16),.ref (J 17),.ref (J 18),.ref (J 19),.ref (J 20),.ref (J 21),.ref (J 22)] 15,lst [.int 2 (tk 6),.int 2 (tk 6),.int 3 (Z 1),.int 3 (Z 1),.int 3 (Z 2),.int 3 (Z 2)] 2,lst [.int 2 (tk 5),.int 2 (tk 6),.int 3 (Z 1),.int 3 (Z 1),.int 3 (Z 3),.int 3 (Z 3)] 2,lst [.int 2 (tk 5),.int 2 (tk 6),.int 3 (Z 1),.int 3 (Z 1),.int 3 (Z 4),.int 3 (Z 4)] 2,lst [.int 2 (tk 5),.int 2 (tk 6),.int 2 (tk 6),.int 3 (Z 1),.int 4 (Z 5),.int 4 (Z 5)] 2,lst [.int 2 (tk 5),.int 2 (tk 6),.int 2 (tk 6),.int 3 (Z 1),.int 4 (Z 6),.int 4 (Z 6)] 2,lst [.int 2 (Z 7),.int 2 (Z 7),.int 3 (tk 8),.int 3 (tk 8),.int 3 (Z 8),.int 3 (Z 8)] 2,lst [.int 1 (tk 7),.int 3 (tk 8),.int 3 (Z 8),.int 3 (Z 8),.int 4 (Z 9),.int 4 (Z 9)] 2,lst [.int 1 (tk 7),.int 3 (tk 8),.int 3 (Z 8),.int 3 (Z 8),.int 4 (Z 10),.int 4 (Z 10)] 2,lst [.int 1 (tk 7),.int 3 (tk 8),.int 3 (tk 8),.int 3 (Z 8),.int 4 (Z 11),.int 4 (Z 11)] 2,lst [.int 1 (tk 7),.int 3 (tk 8),.int 3 (tk 8),.int 3 (Z 8),.int 4 (Z 12),.int 4 (Z 12)] 2,lst [.int 2 (tk 5),.int 2 (Z 13),.int 2 (Z 13),.int 3 (tk 8),.int 4 (Z 14),.int 4 (Z 14)] 2,lst [.int 1 (tk 7),.int 3 (tk 8),.int 3 (Z 15),.int 3 (Z 15),.int 4 (Z 14),.int 4 (Z 14)] 2,lst [.int 1 (tk 7),.int 2 (tk 5),.int 4 (Z 14),.int 4 (Z 14),.int 4 (Z 16),.int 4 (Z 16)] 2,lst [.int 1 (tk 7),.int 2 (tk 5),.int 3 (tk 8),.int 4 (Z 14),.int 5 (Z 17),.int 5 (Z 17)] 2,lst [.int 1 (tk 7),.int 2 (tk 5),.int 3 (tk 8),.int 4 (Z 14),.int 5 (Z 18),.int 5 (Z 18)] 2] }
noncomputable def rl3_e0 (Pw:Params)(tk vv:Nat→Nat)(s m i:Nat):Ev:=evX (fun J Z=>X_ri3 Pw (pick [(Z 2),(tk 5),(tk 6)] 0) (pick [] 0) (J 0)) [8,10,7,4] s m i
noncomputable def rl3_e1 (Pw:Params)(tk vv:Nat→Nat)(s m i:Nat):Ev:=evX (fun J Z=>X_ri4 Pw (pick [(Z 2),(Z 7),(Z 8),(tk 7),(tk 5),(tk 8)] 0) (pick [(J 11),(J 12),(J 13),(J 14)] 0) (J 0)) [8,16,7,5] s m i
noncomputable def rl3_e2 (Pw:Params)(tk vv:Nat→Nat)(s m i:Nat):Ev:=evX (fun J Z=>X_enum [.ref (J 11),.ref (J 12),.ref (J 13),.ref (J 14),.ref (J 17),.ref (J 18),.ref (J 19),.ref (J 20)] 8) [7] s m i
noncomputable def rl3_e3 (Pw:Params)(tk vv:Nat→Nat)(s m i:Nat):Ev:=evX (fun J Z=>X_in [] [(2,(tk 5)),(2,(tk 6)),(2,(tk 6)),(3,(Z 9)),(3,(Z 9))] 2 0 false) [32,11] s m i
noncomputable def rl3_e4 (Pw:Params)(tk vv:Nat→Nat)(s m i:Nat):Ev:=evX (fun J Z=>X_in [([(2,(tk 5)),(2,(tk 6)),(2,(tk 6)),(3,(Z 9)),(3,(Z 9))],2)] [(2,(tk 5)),(2,(tk 6)),(2,(tk 6)),(3,(Z 10)),(3,(Z 10))] 2 0 true) [38,12,11] s m i
noncomputable def rl3_e5 (Pw:Params)(tk vv:Nat→Nat)(s m i:Nat):Ev:=evX (fun J Z=>X_in [([(2,(tk 5)),(2,(tk 6)),(2,(tk 6)),(3,(Z 9)),(3,(Z 9))],2),([(2,(tk 5)),(2,(tk 6)),(2,(tk 6)),(3,(Z 10)),(3,(Z 10))],2)] [(2,(tk 5)),(2,(tk 5)),(2,(tk 6)),(3,(Z 11)),(3,(Z 11))] 2 0 true) [44,13,11,12] s m i
noncomputable def rl3_e6 (Pw:Params)(tk vv:Nat→Nat)(s m i:Nat):Ev:=evX (fun J Z=>X_in [([(2,(tk 5)),(2,(tk 6)),(2,(tk 6)),(3,(Z 9)),(3,(Z 9))],2),([(2,(tk 5)),(2,(tk 6)),(2,(tk 6)),(3,(Z 10)),(3,(Z 10))],2),([(2,(tk 5)),(2,(tk 5)),(2,(tk 6)),(3,(Z 11)),(3,(Z 11))],2)] [(2,(tk 5)),(2,(tk 5)),(2,(tk 6)),(3,(Z 12)),(3,(Z 12))] 2 0 true) [50,14,11,12,13] s m i
noncomputable def rl3_e7 (Pw:Params)(tk vv:Nat→Nat)(s m i:Nat):Ev:=evX (fun J Z=>X_in [([(2,(tk 5)),(2,(tk 6)),(2,(tk 6)),(3,(Z 9)),(3,(Z 9))],2),([(2,(tk 5)),(2,(tk 6)),(2,(tk 6)),(3,(Z 10)),(3,(Z 10))],2),([(2,(tk 5)),(2,(tk 5)),(2,(tk 6)),(3,(Z 11)),(3,(Z 11))],2),([(2,(tk 5)),(2,(tk 5)),(2,(tk 6)),(3,(Z 12)),(3,(Z 12))],2)] [(2,(tk 5)),(2,(Z 19)),(2,(Z 19)),(3,(tk 8)),(3,(tk 8))] 2 0 true) [56,17,11,12,13,14] s m i
noncomputable def rl3_e8 (Pw:Params)(tk vv:Nat→Nat)(s m i:Nat):Ev:=evX (fun J Z=>X_in [([(2,(tk 5)),(2,(tk 6)),(2,(tk 6)),(3,(Z 9)),(3,(Z 9))],2),([(2,(tk 5)),(2,(tk 6)),(2,(tk 6)),(3,(Z 10)),(3,(Z 10))],2),([(2,(tk 5)),(2,(tk 5)),(2,(tk 6)),(3,(Z 11)),(3,(Z 11))],2),([(2,(tk 5)),(2,(tk 5)),(2,(tk 6)),(3,(Z 12)),(3,(Z 12))],2),([(2,(tk 5)),(2,(Z 19)),(2,(Z 19)),(3,(tk 8)),(3,(tk 8))],2)] [(1,(tk 7)),(3,(tk 8)),(3,(tk 8)),(3,(Z 20)),(3,(Z 20))] 2 0 false) [62,18,11,12,13,14,17] s m i
noncomputable def rl3_e9 (Pw:Params)(tk vv:Nat→Nat)(s m i:Nat):Ev:=evX (fun J Z=>X_in [([(2,(tk 5)),(2,(tk 6)),(2,(tk 6)),(3,(Z 9)),(3,(Z 9))],2),([(2,(tk 5)),(2,(tk 6)),(2,(tk 6)),(3,(Z 10)),(3,(Z 10))],2),([(2,(tk 5)),(2,(tk 5)),(2,(tk 6)),(3,(Z 11)),(3,(Z 11))],2),([(2,(tk 5)),(2,(tk 5)),(2,(tk 6)),(3,(Z 12)),(3,(Z 12))],2),([(2,(tk 5)),(2,(Z 19)),(2,(Z 19)),(3,(tk 8)),(3,(tk 8))],2),([(1,(tk 7)),(3,(tk 8)),(3,(tk 8)),(3,(Z 20)),(3,(Z 20))],2)] [(1,(tk 7)),(2,(tk 5)),(3,(tk 8)),(4,(Z 21)),(4,(Z 21))] 2 0 false) [68,19,11,12,13,14,17,18] s m i
noncomputable def rl3_e10 (Pw:Params)(tk vv:Nat→Nat)(s m i:Nat):Ev:=evX (fun J Z=>X_in [([(2,(tk 5)),(2,(tk 6)),(2,(tk 6)),(3,(Z 9)),(3,(Z 9))],2),([(2,(tk 5)),(2,(tk 6)),(2,(tk 6)),(3,(Z 10)),(3,(Z 10))],2),([(2,(tk 5)),(2,(tk 5)),(2,(tk 6)),(3,(Z 11)),(3,(Z 11))],2),([(2,(tk 5)),(2,(tk 5)),(2,(tk 6)),(3,(Z 12)),(3,(Z 12))],2),([(2,(tk 5)),(2,(Z 19)),(2,(Z 19)),(3,(tk 8)),(3,(tk 8))],2),([(1,(tk 7)),(3,(tk 8)),(3,(tk 8)),(3,(Z 20)),(3,(Z 20))],2),([(1,(tk 7)),(2,(tk 5)),(3,(tk 8)),(4,(Z 21)),(4,(Z 21))],2)] [(1,(tk 7)),(2,(tk 5)),(3,(tk 8)),(4,(Z 22)),(4,(Z 22))] 2 0 true) [74,20,11,12,13,14,17,18,19] s m i
noncomputable def rl3_e11 (Pw:Params)(tk vv:Nat→Nat)(s m i:Nat):Ev:=evX (fun J Z=>X_rl4 Pw (pick [(tk 0),(tk 1),(tk 2),(tk 3),(Z 0),(tk 5),(tk 6),(Z 9),(tk 7),(tk 8),(Z 20),(Z 21)] 0) (pick [(J 7)] 0)) [0,1,2,25,11,18,19] s m i
noncomputable def rl3_hs (b1 b2:Bool):List Nat:=(match b1,b2 with | true,true=>[3,3,3,3,3,3,3,3,3,1,1,1,4,4,4,7,7,7,7,7,4,7,7,9,9,0,0,0,0,9,5,5,5,10,10,10,10,10,10,10,10,10,10,11,7,7,7,7,4,7,7,9,9,0,0,0,0,9,6,6,6,16,16,16,16,16,16,16,16,16,16,17,7,7,7,7,4,7,7,23,9,9,9,9,9,9,2,2,0,0,2,25,25,25,25,25,25,25,25,25,25,25,24,24,24,24,8,24,24,25,25,25,25,25,25,25,25,25,25,25,25,25,25,25,28,28,28,28,25,28,28,28,28,29,29,29,29,29,28,29,29,29,29,29,29,28,29,29,29,29,29,29,28,29,29,31,27,27,27,27,27,2,27,8,8,8,8,32,32,32,32,32,8,33,33,33,27,26,26,26,26,25,25,25,24,24,24,24,8,24,24,25,25,25,25,25,25,25,25,25,25,25,25,25,25,25,34,34,34,34,25,34,34,34,34,35,35,35,35,35,34,35,35,35,35,35,35,34,35,35,35,35,35,35,34,35,35,37,27,27,27,27,27,2,27,8,8,8,8,38,38,38,38,38,8,39,39,39,25,25,25,24,24,24,24,8,24,24,25,25,25,25,25,25,25,25,25,25,25,25,25,25,25,40,40,40,40,25,40,40,40,40,41,41,41,41,41,40,41,41,41,41,41,41,40,41,41,41,41,41,41,40,41,41,43,27,27,27,27,27,2,27,8,8,8,8,44,44,44,44,44,8,45,45,45,25,25,25,24,24,24,24,8,24,24,25,25,25,25,25,25,25,25,25,25,25,25,25,25,25,46,46,46,46,25,46,46,46,46,47,47,47,47,47,46,47,47,47,47,47,47,46,47,47,47,47,47,47,46,47,47,49,27,27,27,27,27,2,27,8,8,8,8,50,50,50,50,50,8,51,51,51,25,25,25,24,24,24,24,8,24,24,25,25,25,25,25,25,25,25,25,25,25,25,25,25,25,52,52,52,52,25,52,52,52,52,53,53,53,53,53,52,53,53,53,53,53,53,52,53,53,53,53,53,53,52,53,53,55,27,27,27,27,27,2,27,8,8,8,8,56,56,56,56,56,8,57,57,57,25,25,25,24,24,24,24,8,24,24,25,25,25,25,25,25,25,25,25,25,25,25,25,25,25,58,58,58,58,25,58,58,58,58,59,59,59,59,59,58,59,59,59,59,59,59,58,59,59,59,59,59,59,58,59,59,61,27,27,27,27,27,2,27,8,8,8,8,62,62,62,62,62,8,63,63,63,27,26,26,26,26,25,25,25,24,24,24,24,8,24,24,25,25,25,25,25,25,25,25,25,25,25,25,25,25,25,64,64,64,64,25,64,64,64,64,65,65,65,65,65,64,65,65,65,65,65,65,64,65,65,65,65,65,65,64,65,65,67,27,27,27,27,27,2,27,8,8,8,8,68,68,68,68,68,8,69,69,69,27,26,26,26,26,25,25,25,24,24,24,24,8,24,24,25,25,25,25,25,25,25,25,25,25,25,25,25,25,25,70,70,70,70,25,70,70,70,70,71,71,71,71,71,70,71,71,71,71,71,71,70,71,71,71,71,71,71,70,71,71,73,27,27,27,27,27,2,27,8,8,8,8,74,74,74,74,74,8,75,75,75,25,25,25,24,24,24,24,8,24,24,77,1,1,27,27,27,27,27,27] | true,false=>[3,3,3,3,3,3,3,3,3,1,1,1,4,4,4,7,7,7,7,7,7,7,7,7,4,7,7,9,9,0,0,0,0,9,5,5,5,10,10,10,10,10,10,10,10,10,10,11,11,11,11,11,7,7,7,7,4,7,7,9,9,0,0,0,0,9,6,6,6,16,16,16,16,16,16,16,16,16,16,17,17,17,17,17,7,7,7,7,4,7,7,23,9,9,9,9,9,9,2,2,0,0,2,25,25,25,25,25,25,25,25,25,25,25,25,25,25,25,24,24,24,24,8,24,24,25,25,25,25,25,25,25,25,25,25,25,25,25,25,25,28,28,28,28,25,28,28,28,28,29,29,29,29,29,28,29,29,29,29,29,29,28,29,29,29,29,29,29,28,29,29,31,27,27,27,27,27,2,27,8,8,8,8,32,32,32,32,32,8,33,33,33,27,26,26,26,26,25,25,25,24,24,24,24,8,24,24,25,25,25,25,25,25,25,25,25,25,25,25,25,25,25,34,34,34,34,25,34,34,34,34,35,35,35,35,35,34,35,35,35,35,35,35,34,35,35,35,35,35,35,34,35,35,37,27,27,27,27,27,2,27,8,8,8,8,38,38,38,38,38,8,39,39,39,25,25,25,24,24,24,24,8,24,24,25,25,25,25,25,25,25,25,25,25,25,25,25,25,25,40,40,40,40,25,40,40,40,40,41,41,41,41,41,40,41,41,41,41,41,41,40,41,41,41,41,41,41,40,41,41,43,27,27,27,27,27,2,27,8,8,8,8,44,44,44,44,44,8,45,45,45,25,25,25,24,24,24,24,8,24,24,25,25,25,25,25,25,25,25,25,25,25,25,25,25,25,46,46,46,46,25,46,46,46,46,47,47,47,47,47,46,47,47,47,47,47,47,46,47,47,47,47,47,47,46,47,47,49,27,27,27,27,27,2,27,8,8,8,8,50,50,50,50,50,8,51,51,51,25,25,25,24,24,24,24,8,24,24,25,25,25,25,25,25,25,25,25,25,25,25,25,25,25,52,52,52,52,25,52,52,52,52,53,53,53,53,53,52,53,53,53,53,53,53,52,53,53,53,53,53,53,52,53,53,55,27,27,27,27,27,2,27,8,8,8,8,56,56,56,56,56,8,57,57,57,25,25,25,24,24,24,24,8,24,24,25,25,25,25,25,25,25,25,25,25,25,25,25,25,25,58,58,58,58,25,58,58,58,58,59,59,59,59,59,58,59,59,59,59,59,59,58,59,59,59,59,59,59,58,59,59,61,27,27,27,27,27,2,27,8,8,8,8,62,62,62,62,62,8,63,63,63,27,26,26,26,26,25,25,25,24,24,24,24,8,24,24,25,25,25,25,25,25,25,25,25,25,25,25,25,25,25,64,64,64,64,25,64,64,64,64,65,65,65,65,65,64,65,65,65,65,65,65,64,65,65,65,65,65,65,64,65,65,67,27,27,27,27,27,2,27,8,8,8,8,68,68,68,68,68,8,69,69,69,27,26,26,26,26,25,25,25,24,24,24,24,8,24,24,25,25,25,25,25,25,25,25,25,25,25,25,25,25,25,70,70,70,70,25,70,70,70,70,71,71,71,71,71,70,71,71,71,71,71,71,70,71,71,71,71,71,71,70,71,71,73,27,27,27,27,27,2,27,8,8,8,8,74,74,74,74,74,8,75,75,75,25,25,25,24,24,24,24,8,24,24,77,1,1,27,27,27,27,27,27] | false,true=>[3,3,3,3,3,3,3,3,3,1,1,1,4,4,4,7,7,7,7,7,4,7,7,9,9,0,0,0,0,9,5,5,5,10,10,10,10,10,10,10,10,10,10,11,7,7,7,7,4,7,7,9,9,0,0,0,0,9,6,6,6,16,16,16,16,16,16,16,16,16,16,17,7,7,7,7,4,7,7,23,9,9,9,9,9,9,2,2,0,0,2,25,25,25,25,25,25,25,25,25,25,25,24,24,24,24,8,24,24,25,25,25,25,25,25,25,25,25,25,25,25,25,25,25,28,28,28,28,25,28,28,28,28,29,29,29,29,29,28,29,29,29,29,29,29,28,29,29,29,29,29,29,28,29,29,31,27,27,27,27,27,2,27,8,8,8,8,32,32,32,32,32,8,33,33,33,27,26,26,26,26,25,25,25,24,24,24,24,8,24,24,25,25,25,25,25,25,25,25,25,25,25,25,25,25,25,34,34,34,34,25,34,34,34,34,35,35,35,35,35,34,35,35,35,35,35,35,34,35,35,35,35,35,35,34,35,35,37,27,27,27,27,27,2,27,8,8,8,8,38,38,38,38,38,8,39,39,39,25,25,25,24,24,24,24,8,24,24,25,25,25,25,25,25,25,25,25,25,25,25,25,25,25,40,40,40,40,25,40,40,40,40,41,41,41,41,41,40,41,41,41,41,41,41,40,41,41,41,41,41,41,40,41,41,43,27,27,27,27,27,2,27,8,8,8,8,44,44,44,44,44,8,45,45,45,25,25,25,24,24,24,24,8,24,24,25,25,25,25,25,25,25,25,25,25,25,25,25,25,25,46,46,46,46,25,46,46,46,46,47,47,47,47,47,46,47,47,47,47,47,47,46,47,47,47,47,47,47,46,47,47,49,27,27,27,27,27,2,27,8,8,8,8,50,50,50,50,50,8,51,51,51,25,25,25,24,24,24,24,8,24,24,25,25,25,25,25,25,25,25,25,25,25,25,25,25,25,52,52,52,52,25,52,52,52,52,53,53,53,53,53,52,53,53,53,53,53,53,52,53,53,53,53,53,53,52,53,53,55,27,27,27,27,27,2,27,8,8,8,8,56,56,56,56,56,8,57,57,57,25,25,25,24,24,24,24,8,24,24,25,25,25,25,25,25,25,25,25,25,25,25,25,25,25,58,58,58,58,25,58,58,58,58,59,59,59,59,59,58,59,59,59,59,59,59,58,59,59,59,59,59,59,58,59,59,61,27,27,27,27,27,2,27,8,8,8,8,62,62,62,62,62,8,63,63,63,27,26,26,26,26,25,25,25,24,24,24,24,8,24,24,25,25,25,25,25,25,25,25,25,25,25,25,25,25,25,64,64,64,64,25,64,64,64,64,65,65,65,65,65,64,65,65,65,65,65,65,64,65,65,65,65,65,65,64,65,65,67,27,27,27,27,27,2,27,8,8,8,8,68,68,68,68,68,8,69,69,69,27,26,26,26,26,25,25,25,24,24,24,24,8,24,24,25,25,25,25,25,25,25,25,25,25,25,25,25,25,25,70,70,70,70,25,70,70,70,70,71,71,71,71,71,70,71,71,71,71,71,71,70,71,71,71,71,71,71,70,71,71,73,27,27,27,27,27,2,27,8,8,8,8,74,74,74,74,74,8,75,75,75,25,25,25,24,24,24,24,8,24,24,77,1,1,27,27,27,27,27,27] | false,false=>[3,3,3,3,3,3,3,3,3,1,1,1,4,4,4,7,7,7,7,7,7,7,7,7,4,7,7,9,9,0,0,0,0,9,5,5,5,10,10,10,10,10,10,10,10,10,10,11,11,11,11,11,7,7,7,7,4,7,7,9,9,0,0,0,0,9,6,6,6,16,16,16,16,16,16,16,16,16,16,17,17,17,17,17,7,7,7,7,4,7,7,23,9,9,9,9,9,9,2,2,0,0,2,25,25,25,25,25,25,25,25,25,25,25,25,25,25,25,24,24,24,24,8,24,24,25,25,25,25,25,25,25,25,25,25,25,25,25,25,25,28,28,28,28,25,28,28,28,28,29,29,29,29,29,28,29,29,29,29,29,29,28,29,29,29,29,29,29,28,29,29,31,27,27,27,27,27,2,27,8,8,8,8,32,32,32,32,32,8,33,33,33,27,26,26,26,26,25,25,25,24,24,24,24,8,24,24,25,25,25,25,25,25,25,25,25,25,25,25,25,25,25,34,34,34,34,25,34,34,34,34,35,35,35,35,35,34,35,35,35,35,35,35,34,35,35,35,35,35,35,34,35,35,37,27,27,27,27,27,2,27,8,8,8,8,38,38,38,38,38,8,39,39,39,25,25,25,24,24,24,24,8,24,24,25,25,25,25,25,25,25,25,25,25,25,25,25,25,25,40,40,40,40,25,40,40,40,40,41,41,41,41,41,40,41,41,41,41,41,41,40,41,41,41,41,41,41,40,41,41,43,27,27,27,27,27,2,27,8,8,8,8,44,44,44,44,44,8,45,45,45,25,25,25,24,24,24,24,8,24,24,25,25,25,25,25,25,25,25,25,25,25,25,25,25,25,46,46,46,46,25,46,46,46,46,47,47,47,47,47,46,47,47,47,47,47,47,46,47,47,47,47,47,47,46,47,47,49,27,27,27,27,27,2,27,8,8,8,8,50,50,50,50,50,8,51,51,51,25,25,25,24,24,24,24,8,24,24,25,25,25,25,25,25,25,25,25,25,25,25,25,25,25,52,52,52,52,25,52,52,52,52,53,53,53,53,53,52,53,53,53,53,53,53,52,53,53,53,53,53,53,52,53,53,55,27,27,27,27,27,2,27,8,8,8,8,56,56,56,56,56,8,57,57,57,25,25,25,24,24,24,24,8,24,24,25,25,25,25,25,25,25,25,25,25,25,25,25,25,25,58,58,58,58,25,58,58,58,58,59,59,59,59,59,58,59,59,59,59,59,59,58,59,59,59,59,59,59,58,59,59,61,27,27,27,27,27,2,27,8,8,8,8,62,62,62,62,62,8,63,63,63,27,26,26,26,26,25,25,25,24,24,24,24,8,24,24,25,25,25,25,25,25,25,25,25,25,25,25,25,25,25,64,64,64,64,25,64,64,64,64,65,65,65,65,65,64,65,65,65,65,65,65,64,65,65,65,65,65,65,64,65,65,67,27,27,27,27,27,2,27,8,8,8,8,68,68,68,68,68,8,69,69,69,27,26,26,26,26,25,25,25,24,24,24,24,8,24,24,25,25,25,25,25,25,25,25,25,25,25,25,25,25,25,70,70,70,70,25,70,70,70,70,71,71,71,71,71,70,71,71,71,71,71,71,70,71,71,71,71,71,71,70,71,71,73,27,27,27,27,27,2,27,8,8,8,8,74,74,74,74,74,8,75,75,75,25,25,25,24,24,24,24,8,24,24,77,1,1,27,27,27,27,27,27])
noncomputable def rl3_cs (Pw:Params)(tk vv:Nat→Nat)(b1 b2:Bool):List Ev:=(match b1,b2 with | true,true=>[rl3_e0 Pw tk vv 21 11 7,rl3_e1 Pw tk vv 16 17 18,rl3_e2 Pw tk vv 6 23 23,rl3_e3 Pw tk vv 21 33 26,rl3_e4 Pw tk vv 18 39 29,rl3_e5 Pw tk vv 16 45 32,rl3_e6 Pw tk vv 16 51 35,rl3_e7 Pw tk vv 16 57 38,rl3_e8 Pw tk vv 16 63 41,rl3_e9 Pw tk vv 18 69 44,rl3_e10 Pw tk vv 18 75 47,rl3_e11 Pw tk vv 5 77 48] | true,false=>[rl3_e0 Pw tk vv 25 11 7,rl3_e1 Pw tk vv 18 17 18,rl3_e2 Pw tk vv 6 23 23,rl3_e3 Pw tk vv 23 33 26,rl3_e4 Pw tk vv 18 39 29,rl3_e5 Pw tk vv 16 45 32,rl3_e6 Pw tk vv 16 51 35,rl3_e7 Pw tk vv 16 57 38,rl3_e8 Pw tk vv 16 63 41,rl3_e9 Pw tk vv 18 69 44,rl3_e10 Pw tk vv 18 75 47,rl3_e11 Pw tk vv 5 77 48] | false,true=>[rl3_e0 Pw tk vv 21 11 7,rl3_e1 Pw tk vv 16 17 18,rl3_e2 Pw tk vv 6 23 23,rl3_e3 Pw tk vv 21 33 26,rl3_e4 Pw tk vv 18 39 29,rl3_e5 Pw tk vv 16 45 32,rl3_e6 Pw tk vv 16 51 35,rl3_e7 Pw tk vv 16 57 38,rl3_e8 Pw tk vv 16 63 41,rl3_e9 Pw tk vv 18 69 44,rl3_e10 Pw tk vv 18 75 47,rl3_e11 Pw tk vv 5 77 48] | false,false=>[rl3_e0 Pw tk vv 25 11 7,rl3_e1 Pw tk vv 18 17 18,rl3_e2 Pw tk vv 6 23 23,rl3_e3 Pw tk vv 23 33 26,rl3_e4 Pw tk vv 18 39 29,rl3_e5 Pw tk vv 16 45 32,rl3_e6 Pw tk vv 16 51 35,rl3_e7 Pw tk vv 16 57 38,rl3_e8 Pw tk vv 16 63 41,rl3_e9 Pw tk vv 18 69 44,rl3_e10 Pw tk vv 18 75 47,rl3_e11 Pw tk vv 5 77 48])
theorem run_rl3 (tk vv:Nat→Nat)(Pw:Params):∀ (b1 b2:Bool) (J Z:Nu),RD (X_rl3 Pw tk vv) Pw b1 b2 1428 (rl3_hs b1 b2) (rl3_cs Pw tk vv b1 b2) [77,78,79,80,81,82,83,84,85,86,87,88,89,90,91,92,93] [48,9,49,50,51,52,53,54,20,55,56,57,58,59,21,60,61,62,63] J Z
  | true,true,J,Z=>by kernel_rfl
  | true,false,J,Z=>by kernel_rfl
  | false,true,J,Z=>by kernel_rfl
  | false,false,J,Z=>by kernel_rfl
theorem ok_rl3 (w:World){tk vv:Nat→Nat}  : (X_rl3 w.params tk vv).Ok w :=
  ok_of_run (hs:=rl3_hs (row1 w) (row2 w)) (cs:=rl3_cs w.params tk vv (row1 w) (row2 w)) (ns:=[77,78,79,80,81,82,83,84,85,86,87,88,89,90,91,92,93]) (ts:=[48,9,49,50,51,52,53,54,20,55,56,57,58,59,21,60,61,62,63]) ((show ∀ b1 b2,ValidAll prg w (gl w.params) (rl3_cs w.params tk vv b1 b2) from fun b1 b2=>by cases b1<;>cases b2<;>exact vc (fun J Z=>ok_ri3 w) rfl (vc (fun J Z=>ok_ri4 w) rfl (vc (fun J Z=>ok_enum) rfl (vc (fun J Z=>ok_in rfl) rfl (vc (fun J Z=>ok_in rfl) rfl (vc (fun J Z=>ok_in rfl) rfl (vc (fun J Z=>ok_in rfl) rfl (vc (fun J Z=>ok_in rfl) rfl (vc (fun J Z=>ok_in rfl) rfl (vc (fun J Z=>ok_in rfl) rfl (vc (fun J Z=>ok_in rfl) rfl (vc (fun J Z=>ok_rl4 w) rfl (va_nil))))))))))))) _ _) rfl rfl (by decide) (show ∀ j∈([77,78,79,80,81,82,83,84,85,86,87,88,89,90,91,92,93]:List Nat),6≤j by decide) (run_rl3 tk vv w.params (row1 w) (row2 w))
noncomputable def X_rl2 (Pw:Params)(tk vv:Nat→Nat):Spec:={ n0:=5,k:=17,nt:=21,d:=384,code:=fun J=>.forLoop rwFor.1 (.ref (J 2)) rwFor.2 [] (rwE (J 0) (J 1)),pre:=fun J=>[frm [⟨hsh Pw sSize,.str sSize (tk 0),.int 6 (tk 1)⟩,⟨hsh Pw sRows,.str sRows (tk 2),.ref (J 3)⟩,⟨hsh Pw sK,.str sK (tk 3),.int 1 (tk 4)⟩] 3,cellO (.ref (vv 0)),riO (.int 2 0) (.int 3 0) (.int 1 0),lst [.ref (J 4)] 1,lst [.int 1 (tk 5),.int 2 (tk 6),.int 2 (tk 6)] 2],res:=fun J Z=>.ok .next,post:=fun J Z=>[frm [⟨hsh Pw sSize,.str sSize (tk 0),.int 6 (tk 1)⟩,⟨hsh Pw sRows,.str sRows (tk 2),.ref (J 5)⟩,⟨hsh Pw sK,.str sK (tk 3),.int 4 (Z 0)⟩] 3,cellO (.ref (J 6)),riO (.int 5 0) (.int 0 0) (.int 1 0),lst [.ref (J 4)] 1,lst [.int 1 (tk 5),.int 2 (tk 6),.int 2 (tk 6)] 2],new:=fun J Z=>[lst [.ref (J 7),.ref (J 10),.ref (J 13),.ref (J 19),.ref (J 20)] 5,lst [.ref (J 7),.ref (J 8),.ref (J 9),.ref (J 10),.ref (J 11),.ref (J 12),.ref (J 13),.ref (J 14),.ref (J 15),.ref (J 16),.ref (J 17),.ref (J 18),.ref (J 19),.ref (J 20),.ref (J 21)] 15,lst [.int 2 (Z 1),.int 2 (Z 1),.int 3 (Z 2),.int 3 (Z 2),.int 3 (Z 3),.int 3 (Z 3)] 2,lst [.int 2 (tk 6),.int 2 (Z 1),.int 3 (Z 2),.int 3 (Z 2),.int 3 (Z 4),.int 3 (Z 4)] 2,lst [.int 2 (tk 6),.int 2 (Z 1),.int 3 (Z 2),.int 3 (Z 2),.int 3 (Z 5),.int 3 (Z 5)] 2,lst [.int 2 (tk 6),.int 2 (Z 1),.int 2 (Z 1),.int 3 (Z 2),.int 4 (Z 6),.int 4 (Z 6)] 2,lst [.int 2 (tk 6),.int 2 (Z 1),.int 2 (Z 1),.int 3 (Z 2),.int 4 (Z 7),.int 4 (Z 7)] 2,lst [.int 2 (Z 8),.int 2 (Z 8),.int 3 (Z 9),.int 3 (Z 9),.int 3 (Z 10),.int 3 (Z 10)] 2,lst [.int 1 (tk 5),.int 3 (Z 9),.int 3 (Z 10),.int 3 (Z 10),.int 4 (Z 11),.int 4 (Z 11)] 2,lst [.int 1 (tk 5),.int 3 (Z 9),.int 3 (Z 10),.int 3 (Z 10),.int 4 (Z 12),.int 4 (Z 12)] 2,lst [.int 1 (tk 5),.int 3 (Z 9),.int 3 (Z 9),.int 3 (Z 10),.int 4 (Z 13),.int 4 (Z 13)] 2,lst [.int 1 (tk 5),.int 3 (Z 9),.int 3 (Z 9),.int 3 (Z 10),.int 4 (Z 14),.int 4 (Z 14)] 2,lst [.int 2 (tk 6),.int 2 (Z 15),.int 2 (Z 15),.int 3 (Z 9),.int 4 (Z 16),.int 4 (Z 16)] 2,lst [.int 1 (tk 5),.int 3 (Z 9),.int 3 (Z 17),.int 3 (Z 17),.int 4 (Z 16),.int 4 (Z 16)] 2,lst [.int 1 (tk 5),.int 2 (tk 6),.int 4 (Z 16),.int 4 (Z 16),.int 4 (Z 18),.int 4 (Z 18)] 2,lst [.int 1 (tk 5),.int 2 (tk 6),.int 3 (Z 9),.int 4 (Z 16),.int 5 (Z 19),.int 5 (Z 19)] 2,lst [.int 1 (tk 5),.int 2 (tk 6),.int 3 (Z 9),.int 4 (Z 16),.int 5 (Z 20),.int 5 (Z 20)] 2] }
noncomputable def rl2_e0 (Pw:Params)(tk vv:Nat→Nat)(s m i:Nat):Ev:=evX (fun J Z=>X_ri2 Pw (pick [(Z 2),(tk 5),(tk 6)] 0) (pick [] 0) (J 0)) [7,9,6,4] s m i
noncomputable def rl2_e1 (Pw:Params)(tk vv:Nat→Nat)(s m i:Nat):Ev:=evX (fun J Z=>X_enum [.ref (J 10),.ref (J 11),.ref (J 12)] 3) [6] s m i
noncomputable def rl2_e2 (Pw:Params)(tk vv:Nat→Nat)(s m i:Nat):Ev:=evX (fun J Z=>X_in [] [(2,(tk 6)),(2,(tk 6)),(2,(Z 9)),(2,(Z 9))] 2 0 false) [24,10] s m i
noncomputable def rl2_e3 (Pw:Params)(tk vv:Nat→Nat)(s m i:Nat):Ev:=evX (fun J Z=>X_in [([(2,(tk 6)),(2,(tk 6)),(2,(Z 9)),(2,(Z 9))],2)] [(1,(tk 5)),(2,(tk 6)),(3,(Z 10)),(3,(Z 10))] 2 0 false) [30,11,10] s m i
noncomputable def rl2_e4 (Pw:Params)(tk vv:Nat→Nat)(s m i:Nat):Ev:=evX (fun J Z=>X_in [([(2,(tk 6)),(2,(tk 6)),(2,(Z 9)),(2,(Z 9))],2),([(1,(tk 5)),(2,(tk 6)),(3,(Z 10)),(3,(Z 10))],2)] [(1,(tk 5)),(2,(tk 6)),(3,(Z 11)),(3,(Z 11))] 2 0 true) [36,12,10,11] s m i
noncomputable def rl2_e5 (Pw:Params)(tk vv:Nat→Nat)(s m i:Nat):Ev:=evX (fun J Z=>X_rl3 Pw (pick [(tk 0),(tk 1),(tk 2),(tk 3),(Z 0),(tk 6),(Z 9),(tk 5),(Z 10)] 0) (pick [(J 6)] 0)) [0,1,2,17,10,11] s m i
noncomputable def rl2_hs (b1 b2:Bool):List Nat:=(match b1,b2 with | true,true=>[3,3,3,3,3,3,3,3,3,1,1,1,4,4,4,6,6,6,6,6,4,6,6,8,8,0,0,0,0,8,5,5,5,9,9,9,9,9,9,9,9,9,9,10,6,6,6,6,4,6,6,15,8,8,8,8,8,8,2,2,0,0,2,17,17,17,17,17,17,17,17,17,17,17,16,16,16,16,7,16,16,17,17,17,17,17,17,17,17,17,17,17,17,17,17,17,20,20,20,20,17,20,20,20,20,21,21,21,21,21,20,21,21,21,21,21,21,20,21,21,21,21,21,21,20,21,21,23,19,19,19,19,19,2,19,7,7,7,7,24,24,24,24,24,7,25,25,25,19,18,18,18,18,17,17,17,16,16,16,16,7,16,16,17,17,17,17,17,17,17,17,17,17,17,17,17,17,17,26,26,26,26,17,26,26,26,26,27,27,27,27,27,26,27,27,27,27,27,27,26,27,27,27,27,27,27,26,27,27,29,19,19,19,19,19,2,19,7,7,7,7,30,30,30,30,30,7,31,31,31,19,18,18,18,18,17,17,17,16,16,16,16,7,16,16,17,17,17,17,17,17,17,17,17,17,17,17,17,17,17,32,32,32,32,17,32,32,32,32,33,33,33,33,33,32,33,33,33,33,33,33,32,33,33,33,33,33,33,32,33,33,35,19,19,19,19,19,2,19,7,7,7,7,36,36,36,36,36,7,37,37,37,17,17,17,16,16,16,16,7,16,16,39,1,1,19,19,19,19,19,19] | true,false=>[3,3,3,3,3,3,3,3,3,1,1,1,4,4,4,6,6,6,6,6,6,6,6,6,4,6,6,8,8,0,0,0,0,8,5,5,5,9,9,9,9,9,9,9,9,9,9,10,10,10,10,10,6,6,6,6,4,6,6,15,8,8,8,8,8,8,2,2,0,0,2,17,17,17,17,17,17,17,17,17,17,17,17,17,17,17,16,16,16,16,7,16,16,17,17,17,17,17,17,17,17,17,17,17,17,17,17,17,20,20,20,20,17,20,20,20,20,21,21,21,21,21,20,21,21,21,21,21,21,20,21,21,21,21,21,21,20,21,21,23,19,19,19,19,19,2,19,7,7,7,7,24,24,24,24,24,7,25,25,25,19,18,18,18,18,17,17,17,16,16,16,16,7,16,16,17,17,17,17,17,17,17,17,17,17,17,17,17,17,17,26,26,26,26,17,26,26,26,26,27,27,27,27,27,26,27,27,27,27,27,27,26,27,27,27,27,27,27,26,27,27,29,19,19,19,19,19,2,19,7,7,7,7,30,30,30,30,30,7,31,31,31,19,18,18,18,18,17,17,17,16,16,16,16,7,16,16,17,17,17,17,17,17,17,17,17,17,17,17,17,17,17,32,32,32,32,17,32,32,32,32,33,33,33,33,33,32,33,33,33,33,33,33,32,33,33,33,33,33,33,32,33,33,35,19,19,19,19,19,2,19,7,7,7,7,36,36,36,36,36,7,37,37,37,17,17,17,16,16,16,16,7,16,16,39,1,1,19,19,19,19,19,19] | false,true=>[3,3,3,3,3,3,3,3,3,1,1,1,4,4,4,6,6,6,6,6,4,6,6,8,8,0,0,0,0,8,5,5,5,9,9,9,9,9,9,9,9,9,9,10,6,6,6,6,4,6,6,15,8,8,8,8,8,8,2,2,0,0,2,17,17,17,17,17,17,17,17,17,17,17,16,16,16,16,7,16,16,17,17,17,17,17,17,17,17,17,17,17,17,17,17,17,20,20,20,20,17,20,20,20,20,21,21,21,21,21,20,21,21,21,21,21,21,20,21,21,21,21,21,21,20,21,21,23,19,19,19,19,19,2,19,7,7,7,7,24,24,24,24,24,7,25,25,25,19,18,18,18,18,17,17,17,16,16,16,16,7,16,16,17,17,17,17,17,17,17,17,17,17,17,17,17,17,17,26,26,26,26,17,26,26,26,26,27,27,27,27,27,26,27,27,27,27,27,27,26,27,27,27,27,27,27,26,27,27,29,19,19,19,19,19,2,19,7,7,7,7,30,30,30,30,30,7,31,31,31,19,18,18,18,18,17,17,17,16,16,16,16,7,16,16,17,17,17,17,17,17,17,17,17,17,17,17,17,17,17,32,32,32,32,17,32,32,32,32,33,33,33,33,33,32,33,33,33,33,33,33,32,33,33,33,33,33,33,32,33,33,35,19,19,19,19,19,2,19,7,7,7,7,36,36,36,36,36,7,37,37,37,17,17,17,16,16,16,16,7,16,16,39,1,1,19,19,19,19,19,19] | false,false=>[3,3,3,3,3,3,3,3,3,1,1,1,4,4,4,6,6,6,6,6,6,6,6,6,4,6,6,8,8,0,0,0,0,8,5,5,5,9,9,9,9,9,9,9,9,9,9,10,10,10,10,10,6,6,6,6,4,6,6,15,8,8,8,8,8,8,2,2,0,0,2,17,17,17,17,17,17,17,17,17,17,17,17,17,17,17,16,16,16,16,7,16,16,17,17,17,17,17,17,17,17,17,17,17,17,17,17,17,20,20,20,20,17,20,20,20,20,21,21,21,21,21,20,21,21,21,21,21,21,20,21,21,21,21,21,21,20,21,21,23,19,19,19,19,19,2,19,7,7,7,7,24,24,24,24,24,7,25,25,25,19,18,18,18,18,17,17,17,16,16,16,16,7,16,16,17,17,17,17,17,17,17,17,17,17,17,17,17,17,17,26,26,26,26,17,26,26,26,26,27,27,27,27,27,26,27,27,27,27,27,27,26,27,27,27,27,27,27,26,27,27,29,19,19,19,19,19,2,19,7,7,7,7,30,30,30,30,30,7,31,31,31,19,18,18,18,18,17,17,17,16,16,16,16,7,16,16,17,17,17,17,17,17,17,17,17,17,17,17,17,17,17,32,32,32,32,17,32,32,32,32,33,33,33,33,33,32,33,33,33,33,33,33,32,33,33,33,33,33,33,32,33,33,35,19,19,19,19,19,2,19,7,7,7,7,36,36,36,36,36,7,37,37,37,17,17,17,16,16,16,16,7,16,16,39,1,1,19,19,19,19,19,19])
noncomputable def rl2_cs (Pw:Params)(tk vv:Nat→Nat)(b1 b2:Bool):List Ev:=(match b1,b2 with | true,true=>[rl2_e0 Pw tk vv 21 10 7,rl2_e1 Pw tk vv 6 15 12,rl2_e2 Pw tk vv 21 25 15,rl2_e3 Pw tk vv 18 31 18,rl2_e4 Pw tk vv 18 37 21,rl2_e5 Pw tk vv 5 39 22] | true,false=>[rl2_e0 Pw tk vv 25 10 7,rl2_e1 Pw tk vv 6 15 12,rl2_e2 Pw tk vv 23 25 15,rl2_e3 Pw tk vv 18 31 18,rl2_e4 Pw tk vv 18 37 21,rl2_e5 Pw tk vv 5 39 22] | false,true=>[rl2_e0 Pw tk vv 21 10 7,rl2_e1 Pw tk vv 6 15 12,rl2_e2 Pw tk vv 21 25 15,rl2_e3 Pw tk vv 18 31 18,rl2_e4 Pw tk vv 18 37 21,rl2_e5 Pw tk vv 5 39 22] | false,false=>[rl2_e0 Pw tk vv 25 10 7,rl2_e1 Pw tk vv 6 15 12,rl2_e2 Pw tk vv 23 25 15,rl2_e3 Pw tk vv 18 31 18,rl2_e4 Pw tk vv 18 37 21,rl2_e5 Pw tk vv 5 39 22])
theorem run_rl2 (tk vv:Nat→Nat)(Pw:Params):∀ (b1 b2:Bool) (J Z:Nu),RD (X_rl2 Pw tk vv) Pw b1 b2 673 (rl2_hs b1 b2) (rl2_cs Pw tk vv b1 b2) [39,40,41,42,43,44,45,46,47,48,49,50,51,52,53,54,55] [22,9,23,24,25,26,27,28,29,10,30,31,32,33,34,35,36,37,38,39,40] J Z
  | true,true,J,Z=>by kernel_rfl
  | true,false,J,Z=>by kernel_rfl
  | false,true,J,Z=>by kernel_rfl
  | false,false,J,Z=>by kernel_rfl
theorem ok_rl2 (w:World){tk vv:Nat→Nat}  : (X_rl2 w.params tk vv).Ok w :=
  ok_of_run (hs:=rl2_hs (row1 w) (row2 w)) (cs:=rl2_cs w.params tk vv (row1 w) (row2 w)) (ns:=[39,40,41,42,43,44,45,46,47,48,49,50,51,52,53,54,55]) (ts:=[22,9,23,24,25,26,27,28,29,10,30,31,32,33,34,35,36,37,38,39,40]) ((show ∀ b1 b2,ValidAll prg w (gl w.params) (rl2_cs w.params tk vv b1 b2) from fun b1 b2=>by cases b1<;>cases b2<;>exact vc (fun J Z=>ok_ri2 w) rfl (vc (fun J Z=>ok_enum) rfl (vc (fun J Z=>ok_in rfl) rfl (vc (fun J Z=>ok_in rfl) rfl (vc (fun J Z=>ok_in rfl) rfl (vc (fun J Z=>ok_rl3 w) rfl (va_nil))))))) _ _) rfl rfl (by decide) (show ∀ j∈([39,40,41,42,43,44,45,46,47,48,49,50,51,52,53,54,55]:List Nat),5≤j by decide) (run_rl2 tk vv w.params (row1 w) (row2 w))
noncomputable def X_rl1 (Pw:Params)(tk vv:Nat→Nat):Spec:={ n0:=5,k:=17,nt:=22,d:=384,code:=fun J=>.forLoop rwFor.1 (.ref (J 2)) rwFor.2 [] (rwE (J 0) (J 1)),pre:=fun J=>[frm [⟨hsh Pw sSize,.str sSize (tk 0),.int 6 (tk 1)⟩,⟨hsh Pw sRows,.str sRows (tk 2),.ref (J 3)⟩,⟨hsh Pw sK,.str sK (tk 3),.int 0 (tk 4)⟩] 3,cellO (.ref (vv 0)),riO (.int 1 0) (.int 4 0) (.int 1 0),lst [.ref (J 4)] 1,lst [.int 1 (tk 5),.int 1 (tk 5)] 2],res:=fun J Z=>.ok .next,post:=fun J Z=>[frm [⟨hsh Pw sSize,.str sSize (tk 0),.int 6 (tk 1)⟩,⟨hsh Pw sRows,.str sRows (tk 2),.ref (J 5)⟩,⟨hsh Pw sK,.str sK (tk 3),.int 4 (Z 0)⟩] 3,cellO (.ref (J 6)),riO (.int 5 0) (.int 0 0) (.int 1 0),lst [.ref (J 4)] 1,lst [.int 1 (tk 5),.int 1 (tk 5)] 2],new:=fun J Z=>[lst [.ref (J 7),.ref (J 10),.ref (J 13),.ref (J 19),.ref (J 20)] 5,lst [.ref (J 7),.ref (J 8),.ref (J 9),.ref (J 10),.ref (J 11),.ref (J 12),.ref (J 13),.ref (J 14),.ref (J 15),.ref (J 16),.ref (J 17),.ref (J 18),.ref (J 19),.ref (J 20),.ref (J 21)] 15,lst [.int 2 (Z 1),.int 2 (Z 1),.int 3 (Z 2),.int 3 (Z 2),.int 3 (Z 3),.int 3 (Z 3)] 2,lst [.int 2 (Z 4),.int 2 (Z 1),.int 3 (Z 2),.int 3 (Z 2),.int 3 (Z 5),.int 3 (Z 5)] 2,lst [.int 2 (Z 4),.int 2 (Z 1),.int 3 (Z 2),.int 3 (Z 2),.int 3 (Z 6),.int 3 (Z 6)] 2,lst [.int 2 (Z 4),.int 2 (Z 1),.int 2 (Z 1),.int 3 (Z 2),.int 4 (Z 7),.int 4 (Z 7)] 2,lst [.int 2 (Z 4),.int 2 (Z 1),.int 2 (Z 1),.int 3 (Z 2),.int 4 (Z 8),.int 4 (Z 8)] 2,lst [.int 2 (Z 9),.int 2 (Z 9),.int 3 (Z 10),.int 3 (Z 10),.int 3 (Z 11),.int 3 (Z 11)] 2,lst [.int 1 (tk 5),.int 3 (Z 10),.int 3 (Z 11),.int 3 (Z 11),.int 4 (Z 12),.int 4 (Z 12)] 2,lst [.int 1 (tk 5),.int 3 (Z 10),.int 3 (Z 11),.int 3 (Z 11),.int 4 (Z 13),.int 4 (Z 13)] 2,lst [.int 1 (tk 5),.int 3 (Z 10),.int 3 (Z 10),.int 3 (Z 11),.int 4 (Z 14),.int 4 (Z 14)] 2,lst [.int 1 (tk 5),.int 3 (Z 10),.int 3 (Z 10),.int 3 (Z 11),.int 4 (Z 15),.int 4 (Z 15)] 2,lst [.int 2 (Z 4),.int 2 (Z 16),.int 2 (Z 16),.int 3 (Z 10),.int 4 (Z 17),.int 4 (Z 17)] 2,lst [.int 1 (tk 5),.int 3 (Z 10),.int 3 (Z 18),.int 3 (Z 18),.int 4 (Z 17),.int 4 (Z 17)] 2,lst [.int 1 (tk 5),.int 2 (Z 4),.int 4 (Z 17),.int 4 (Z 17),.int 4 (Z 19),.int 4 (Z 19)] 2,lst [.int 1 (tk 5),.int 2 (Z 4),.int 3 (Z 10),.int 4 (Z 17),.int 5 (Z 20),.int 5 (Z 20)] 2,lst [.int 1 (tk 5),.int 2 (Z 4),.int 3 (Z 10),.int 4 (Z 17),.int 5 (Z 21),.int 5 (Z 21)] 2] }
noncomputable def rl1_e0 (Pw:Params)(tk vv:Nat→Nat)(s m i:Nat):Ev:=evX (fun J Z=>X_ri1 Pw (pick [(Z 2),(tk 5)] 0) (pick [] 0) (J 0)) [7,9,6,4] s m i
noncomputable def rl1_e1 (Pw:Params)(tk vv:Nat→Nat)(s m i:Nat):Ev:=evX (fun J Z=>X_enum [.ref (J 10),.ref (J 11)] 2) [6] s m i
noncomputable def rl1_e2 (Pw:Params)(tk vv:Nat→Nat)(s m i:Nat):Ev:=evX (fun J Z=>X_in [] [(1,(tk 5)),(2,(Z 9)),(2,(Z 9))] 2 0 false) [23,10] s m i
noncomputable def rl1_e3 (Pw:Params)(tk vv:Nat→Nat)(s m i:Nat):Ev:=evX (fun J Z=>X_in [([(1,(tk 5)),(2,(Z 9)),(2,(Z 9))],2)] [(1,(tk 5)),(2,(Z 10)),(2,(Z 10))] 2 0 true) [29,11,10] s m i
noncomputable def rl1_e4 (Pw:Params)(tk vv:Nat→Nat)(s m i:Nat):Ev:=evX (fun J Z=>X_rl2 Pw (pick [(tk 0),(tk 1),(tk 2),(tk 3),(Z 0),(tk 5),(Z 9)] 0) (pick [(J 6)] 0)) [0,1,2,16,10] s m i
noncomputable def rl1_hs (b1 b2:Bool):List Nat:=(match b1,b2 with | true,true=>[3,3,3,3,3,3,3,3,3,1,1,1,4,4,4,6,6,6,6,6,4,6,6,8,8,0,0,0,0,8,5,5,5,9,9,9,9,9,9,9,9,9,9,10,6,6,6,6,4,6,6,14,8,8,8,8,8,8,2,2,0,0,2,16,16,16,16,16,16,16,16,16,16,16,15,15,15,15,7,15,15,16,16,16,16,16,16,16,16,16,16,16,16,16,16,16,19,19,19,19,16,19,19,19,19,20,20,20,20,20,19,20,20,20,20,20,20,19,20,20,20,20,20,20,19,20,20,22,18,18,18,18,18,2,18,7,7,7,7,23,23,23,23,23,7,24,24,24,18,17,17,17,17,16,16,16,15,15,15,15,7,15,15,16,16,16,16,16,16,16,16,16,16,16,16,16,16,16,25,25,25,25,16,25,25,25,25,26,26,26,26,26,25,26,26,26,26,26,26,25,26,26,26,26,26,26,25,26,26,28,18,18,18,18,18,2,18,7,7,7,7,29,29,29,29,29,7,30,30,30,16,16,16,15,15,15,15,7,15,15,32,1,1,18,18,18,18,18,18] | true,false=>[3,3,3,3,3,3,3,3,3,1,1,1,4,4,4,6,6,6,6,6,6,6,6,6,4,6,6,8,8,0,0,0,0,8,5,5,5,9,9,9,9,9,9,9,9,9,9,10,10,10,10,10,6,6,6,6,4,6,6,14,8,8,8,8,8,8,2,2,0,0,2,16,16,16,16,16,16,16,16,16,16,16,16,16,16,16,15,15,15,15,7,15,15,16,16,16,16,16,16,16,16,16,16,16,16,16,16,16,19,19,19,19,16,19,19,19,19,20,20,20,20,20,19,20,20,20,20,20,20,19,20,20,20,20,20,20,19,20,20,22,18,18,18,18,18,2,18,7,7,7,7,23,23,23,23,23,7,24,24,24,18,17,17,17,17,16,16,16,15,15,15,15,7,15,15,16,16,16,16,16,16,16,16,16,16,16,16,16,16,16,25,25,25,25,16,25,25,25,25,26,26,26,26,26,25,26,26,26,26,26,26,25,26,26,26,26,26,26,25,26,26,28,18,18,18,18,18,2,18,7,7,7,7,29,29,29,29,29,7,30,30,30,16,16,16,15,15,15,15,7,15,15,32,1,1,18,18,18,18,18,18] | false,true=>[3,3,3,3,3,3,3,3,3,1,1,1,4,4,4,6,6,6,6,6,4,6,6,8,8,0,0,0,0,8,5,5,5,9,9,9,9,9,9,9,9,9,9,10,6,6,6,6,4,6,6,14,8,8,8,8,8,8,2,2,0,0,2,16,16,16,16,16,16,16,16,16,16,16,15,15,15,15,7,15,15,16,16,16,16,16,16,16,16,16,16,16,16,16,16,16,19,19,19,19,16,19,19,19,19,20,20,20,20,20,19,20,20,20,20,20,20,19,20,20,20,20,20,20,19,20,20,22,18,18,18,18,18,2,18,7,7,7,7,23,23,23,23,23,7,24,24,24,18,17,17,17,17,16,16,16,15,15,15,15,7,15,15,16,16,16,16,16,16,16,16,16,16,16,16,16,16,16,25,25,25,25,16,25,25,25,25,26,26,26,26,26,25,26,26,26,26,26,26,25,26,26,26,26,26,26,25,26,26,28,18,18,18,18,18,2,18,7,7,7,7,29,29,29,29,29,7,30,30,30,16,16,16,15,15,15,15,7,15,15,32,1,1,18,18,18,18,18,18] | false,false=>[3,3,3,3,3,3,3,3,3,1,1,1,4,4,4,6,6,6,6,6,6,6,6,6,4,6,6,8,8,0,0,0,0,8,5,5,5,9,9,9,9,9,9,9,9,9,9,10,10,10,10,10,6,6,6,6,4,6,6,14,8,8,8,8,8,8,2,2,0,0,2,16,16,16,16,16,16,16,16,16,16,16,16,16,16,16,15,15,15,15,7,15,15,16,16,16,16,16,16,16,16,16,16,16,16,16,16,16,19,19,19,19,16,19,19,19,19,20,20,20,20,20,19,20,20,20,20,20,20,19,20,20,20,20,20,20,19,20,20,22,18,18,18,18,18,2,18,7,7,7,7,23,23,23,23,23,7,24,24,24,18,17,17,17,17,16,16,16,15,15,15,15,7,15,15,16,16,16,16,16,16,16,16,16,16,16,16,16,16,16,25,25,25,25,16,25,25,25,25,26,26,26,26,26,25,26,26,26,26,26,26,25,26,26,26,26,26,26,25,26,26,28,18,18,18,18,18,2,18,7,7,7,7,29,29,29,29,29,7,30,30,30,16,16,16,15,15,15,15,7,15,15,32,1,1,18,18,18,18,18,18])
noncomputable def rl1_cs (Pw:Params)(tk vv:Nat→Nat)(b1 b2:Bool):List Ev:=(match b1,b2 with | true,true=>[rl1_e0 Pw tk vv 21 10 7,rl1_e1 Pw tk vv 6 14 11,rl1_e2 Pw tk vv 21 24 14,rl1_e3 Pw tk vv 18 30 17,rl1_e4 Pw tk vv 5 32 18] | true,false=>[rl1_e0 Pw tk vv 25 10 7,rl1_e1 Pw tk vv 6 14 11,rl1_e2 Pw tk vv 23 24 14,rl1_e3 Pw tk vv 18 30 17,rl1_e4 Pw tk vv 5 32 18] | false,true=>[rl1_e0 Pw tk vv 21 10 7,rl1_e1 Pw tk vv 6 14 11,rl1_e2 Pw tk vv 21 24 14,rl1_e3 Pw tk vv 18 30 17,rl1_e4 Pw tk vv 5 32 18] | false,false=>[rl1_e0 Pw tk vv 25 10 7,rl1_e1 Pw tk vv 6 14 11,rl1_e2 Pw tk vv 23 24 14,rl1_e3 Pw tk vv 18 30 17,rl1_e4 Pw tk vv 5 32 18])
theorem run_rl1 (tk vv:Nat→Nat)(Pw:Params):∀ (b1 b2:Bool) (J Z:Nu),RD (X_rl1 Pw tk vv) Pw b1 b2 532 (rl1_hs b1 b2) (rl1_cs Pw tk vv b1 b2) [32,33,34,35,36,37,38,39,40,41,42,43,44,45,46,47,48] [18,19,20,21,9,22,23,24,25,26,27,28,29,30,31,32,33,34,35,36,37,38] J Z
  | true,true,J,Z=>by kernel_rfl
  | true,false,J,Z=>by kernel_rfl
  | false,true,J,Z=>by kernel_rfl
  | false,false,J,Z=>by kernel_rfl
theorem ok_rl1 (w:World){tk vv:Nat→Nat}  : (X_rl1 w.params tk vv).Ok w :=
  ok_of_run (hs:=rl1_hs (row1 w) (row2 w)) (cs:=rl1_cs w.params tk vv (row1 w) (row2 w)) (ns:=[32,33,34,35,36,37,38,39,40,41,42,43,44,45,46,47,48]) (ts:=[18,19,20,21,9,22,23,24,25,26,27,28,29,30,31,32,33,34,35,36,37,38]) ((show ∀ b1 b2,ValidAll prg w (gl w.params) (rl1_cs w.params tk vv b1 b2) from fun b1 b2=>by cases b1<;>cases b2<;>exact vc (fun J Z=>ok_ri1 w) rfl (vc (fun J Z=>ok_enum) rfl (vc (fun J Z=>ok_in rfl) rfl (vc (fun J Z=>ok_in rfl) rfl (vc (fun J Z=>ok_rl2 w) rfl (va_nil)))))) _ _) rfl rfl (by decide) (show ∀ j∈([32,33,34,35,36,37,38,39,40,41,42,43,44,45,46,47,48]:List Nat),5≤j by decide) (run_rl1 tk vv w.params (row1 w) (row2 w))
noncomputable def X_rl0 (Pw:Params)(tk vv:Nat→Nat):Spec:={ n0:=5,k:=17,nt:=24,d:=384,code:=fun J=>.forLoop rwFor.1 (.ref (J 2)) rwFor.2 [] (rwE (J 0) (J 1)),pre:=fun J=>[frm [⟨hsh Pw sSize,.str sSize (tk 0),.int 6 (tk 1)⟩,⟨hsh Pw sRows,.str sRows (tk 2),.ref (J 3)⟩] 2,({ cls:=.type "cell",data:=.cell none }:Obj),riO (.int 0 0) (.int 5 0) (.int 1 0),lst [.ref (J 4)] 0,lst [.int 0 (tk 3)] 0],res:=fun J Z=>.ok .next,post:=fun J Z=>[frm [⟨hsh Pw sSize,.str sSize (tk 0),.int 6 (tk 1)⟩,⟨hsh Pw sRows,.str sRows (tk 2),.ref (J 5)⟩,⟨hsh Pw sK,.str sK (Z 0),.int 4 (Z 1)⟩] 3,cellO (.ref (J 6)),riO (.int 5 0) (.int 0 0) (.int 1 0),lst [.ref (J 4)] 0,lst [.int 0 (tk 3)] 0],new:=fun J Z=>[lst [.ref (J 7),.ref (J 10),.ref (J 13),.ref (J 19),.ref (J 20)] 5,lst [.ref (J 7),.ref (J 8),.ref (J 9),.ref (J 10),.ref (J 11),.ref (J 12),.ref (J 13),.ref (J 14),.ref (J 15),.ref (J 16),.ref (J 17),.ref (J 18),.ref (J 19),.ref (J 20),.ref (J 21)] 15,lst [.int 2 (Z 2),.int 2 (Z 2),.int 3 (Z 3),.int 3 (Z 3),.int 3 (Z 4),.int 3 (Z 4)] 2,lst [.int 2 (Z 5),.int 2 (Z 2),.int 3 (Z 3),.int 3 (Z 3),.int 3 (Z 6),.int 3 (Z 6)] 2,lst [.int 2 (Z 5),.int 2 (Z 2),.int 3 (Z 3),.int 3 (Z 3),.int 3 (Z 7),.int 3 (Z 7)] 2,lst [.int 2 (Z 5),.int 2 (Z 2),.int 2 (Z 2),.int 3 (Z 3),.int 4 (Z 8),.int 4 (Z 8)] 2,lst [.int 2 (Z 5),.int 2 (Z 2),.int 2 (Z 2),.int 3 (Z 3),.int 4 (Z 9),.int 4 (Z 9)] 2,lst [.int 2 (Z 10),.int 2 (Z 10),.int 3 (Z 11),.int 3 (Z 11),.int 3 (Z 12),.int 3 (Z 12)] 2,lst [.int 1 (Z 13),.int 3 (Z 11),.int 3 (Z 12),.int 3 (Z 12),.int 4 (Z 14),.int 4 (Z 14)] 2,lst [.int 1 (Z 13),.int 3 (Z 11),.int 3 (Z 12),.int 3 (Z 12),.int 4 (Z 15),.int 4 (Z 15)] 2,lst [.int 1 (Z 13),.int 3 (Z 11),.int 3 (Z 11),.int 3 (Z 12),.int 4 (Z 16),.int 4 (Z 16)] 2,lst [.int 1 (Z 13),.int 3 (Z 11),.int 3 (Z 11),.int 3 (Z 12),.int 4 (Z 17),.int 4 (Z 17)] 2,lst [.int 2 (Z 5),.int 2 (Z 18),.int 2 (Z 18),.int 3 (Z 11),.int 4 (Z 19),.int 4 (Z 19)] 2,lst [.int 1 (Z 13),.int 3 (Z 11),.int 3 (Z 20),.int 3 (Z 20),.int 4 (Z 19),.int 4 (Z 19)] 2,lst [.int 1 (Z 13),.int 2 (Z 5),.int 4 (Z 19),.int 4 (Z 19),.int 4 (Z 21),.int 4 (Z 21)] 2,lst [.int 1 (Z 13),.int 2 (Z 5),.int 3 (Z 11),.int 4 (Z 19),.int 5 (Z 22),.int 5 (Z 22)] 2,lst [.int 1 (Z 13),.int 2 (Z 5),.int 3 (Z 11),.int 4 (Z 19),.int 5 (Z 23),.int 5 (Z 23)] 2] }
noncomputable def rl0_e0 (Pw:Params)(tk vv:Nat→Nat)(s m i:Nat):Ev:=evX (fun J Z=>X_ri0 Pw (pick [(Z 2),(tk 3)] 0) (pick [] 0) (J 0)) [7,9,6,4] s m i
noncomputable def rl0_e1 (Pw:Params)(tk vv:Nat→Nat)(s m i:Nat):Ev:=evX (fun J Z=>X_enum [.ref (J 10)] 1) [6] s m i
noncomputable def rl0_e2 (Pw:Params)(tk vv:Nat→Nat)(s m i:Nat):Ev:=evX (fun J Z=>X_in [] [(1,(Z 9)),(1,(Z 9))] 2 0 false) [22,10] s m i
noncomputable def rl0_e3 (Pw:Params)(tk vv:Nat→Nat)(s m i:Nat):Ev:=evX (fun J Z=>X_rl1 Pw (pick [(tk 0),(tk 1),(tk 2),(Z 1),(Z 0),(Z 9)] 0) (pick [(J 6)] 0)) [0,1,2,15,10] s m i
noncomputable def rl0_hs (b1 b2:Bool):List Nat:=(match b1,b2 with | true,true=>[3,3,3,3,3,3,3,3,3,1,1,1,4,4,4,6,6,6,6,6,4,6,6,8,8,0,0,0,0,8,5,5,5,9,9,9,9,9,9,9,9,9,9,10,6,6,6,6,4,6,6,13,8,8,8,8,8,8,2,2,0,0,2,15,15,15,15,15,15,15,15,15,15,15,14,14,14,14,7,14,14,15,15,15,15,15,15,15,15,15,15,15,15,15,15,15,18,18,18,18,15,18,18,18,18,19,19,19,19,19,18,19,19,19,19,19,19,18,19,19,19,19,19,19,18,19,19,21,17,17,17,17,17,2,17,7,7,7,7,22,22,22,22,22,7,23,23,23,17,16,16,16,16,15,15,15,14,14,14,14,7,14,14,25,1,1,17,17,17,17,17,17] | true,false=>[3,3,3,3,3,3,3,3,3,1,1,1,4,4,4,6,6,6,6,6,6,6,6,6,4,6,6,8,8,0,0,0,0,8,5,5,5,9,9,9,9,9,9,9,9,9,9,10,10,10,10,10,6,6,6,6,4,6,6,13,8,8,8,8,8,8,2,2,0,0,2,15,15,15,15,15,15,15,15,15,15,15,15,15,15,15,14,14,14,14,7,14,14,15,15,15,15,15,15,15,15,15,15,15,15,15,15,15,18,18,18,18,15,18,18,18,18,19,19,19,19,19,18,19,19,19,19,19,19,18,19,19,19,19,19,19,18,19,19,21,17,17,17,17,17,2,17,7,7,7,7,22,22,22,22,22,7,23,23,23,17,16,16,16,16,15,15,15,14,14,14,14,7,14,14,25,1,1,17,17,17,17,17,17] | false,true=>[3,3,3,3,3,3,3,3,3,1,1,1,4,4,4,6,6,6,6,6,4,6,6,8,8,0,0,0,0,8,5,5,5,9,9,9,9,9,9,9,9,9,9,10,6,6,6,6,4,6,6,13,8,8,8,8,8,8,2,2,0,0,2,15,15,15,15,15,15,15,15,15,15,15,14,14,14,14,7,14,14,15,15,15,15,15,15,15,15,15,15,15,15,15,15,15,18,18,18,18,15,18,18,18,18,19,19,19,19,19,18,19,19,19,19,19,19,18,19,19,19,19,19,19,18,19,19,21,17,17,17,17,17,2,17,7,7,7,7,22,22,22,22,22,7,23,23,23,17,16,16,16,16,15,15,15,14,14,14,14,7,14,14,25,1,1,17,17,17,17,17,17] | false,false=>[3,3,3,3,3,3,3,3,3,1,1,1,4,4,4,6,6,6,6,6,6,6,6,6,4,6,6,8,8,0,0,0,0,8,5,5,5,9,9,9,9,9,9,9,9,9,9,10,10,10,10,10,6,6,6,6,4,6,6,13,8,8,8,8,8,8,2,2,0,0,2,15,15,15,15,15,15,15,15,15,15,15,15,15,15,15,14,14,14,14,7,14,14,15,15,15,15,15,15,15,15,15,15,15,15,15,15,15,18,18,18,18,15,18,18,18,18,19,19,19,19,19,18,19,19,19,19,19,19,18,19,19,19,19,19,19,18,19,19,21,17,17,17,17,17,2,17,7,7,7,7,22,22,22,22,22,7,23,23,23,17,16,16,16,16,15,15,15,14,14,14,14,7,14,14,25,1,1,17,17,17,17,17,17])
noncomputable def rl0_cs (Pw:Params)(tk vv:Nat→Nat)(b1 b2:Bool):List Ev:=(match b1,b2 with | true,true=>[rl0_e0 Pw tk vv 21 10 7,rl0_e1 Pw tk vv 6 13 10,rl0_e2 Pw tk vv 21 23 13,rl0_e3 Pw tk vv 7 25 14] | true,false=>[rl0_e0 Pw tk vv 25 10 7,rl0_e1 Pw tk vv 6 13 10,rl0_e2 Pw tk vv 23 23 13,rl0_e3 Pw tk vv 7 25 14] | false,true=>[rl0_e0 Pw tk vv 21 10 7,rl0_e1 Pw tk vv 6 13 10,rl0_e2 Pw tk vv 21 23 13,rl0_e3 Pw tk vv 7 25 14] | false,false=>[rl0_e0 Pw tk vv 25 10 7,rl0_e1 Pw tk vv 6 13 10,rl0_e2 Pw tk vv 23 23 13,rl0_e3 Pw tk vv 7 25 14])
theorem run_rl0 (tk vv:Nat→Nat)(Pw:Params):∀ (b1 b2:Bool) (J Z:Nu),RD (X_rl0 Pw tk vv) Pw b1 b2 400 (rl0_hs b1 b2) (rl0_cs Pw tk vv b1 b2) [25,26,27,28,29,30,31,32,33,34,35,36,37,38,39,40,41] [1,14,15,16,17,18,19,20,21,22,23,24,25,9,26,27,28,29,30,31,32,33,34,35] J Z
  | true,true,J,Z=>by kernel_rfl
  | true,false,J,Z=>by kernel_rfl
  | false,true,J,Z=>by kernel_rfl
  | false,false,J,Z=>by kernel_rfl
theorem ok_rl0 (w:World){tk vv:Nat→Nat}  : (X_rl0 w.params tk vv).Ok w :=
  ok_of_run (hs:=rl0_hs (row1 w) (row2 w)) (cs:=rl0_cs w.params tk vv (row1 w) (row2 w)) (ns:=[25,26,27,28,29,30,31,32,33,34,35,36,37,38,39,40,41]) (ts:=[1,14,15,16,17,18,19,20,21,22,23,24,25,9,26,27,28,29,30,31,32,33,34,35]) ((show ∀ b1 b2,ValidAll prg w (gl w.params) (rl0_cs w.params tk vv b1 b2) from fun b1 b2=>by cases b1<;>cases b2<;>exact vc (fun J Z=>ok_ri0 w) rfl (vc (fun J Z=>ok_enum) rfl (vc (fun J Z=>ok_in rfl) rfl (vc (fun J Z=>ok_rl1 w) rfl (va_nil))))) _ _) rfl rfl (by decide) (show ∀ j∈([25,26,27,28,29,30,31,32,33,34,35,36,37,38,39,40,41]:List Nat),5≤j by decide) (run_rl0 tk vv w.params (row1 w) (row2 w))
noncomputable def X_rows (ct:Nat):Spec:={ n0:=0,k:=6,nt:=12,d:=370,code:=fun J=>.call (.ref 207) ⟨[.int 6 ct],[]⟩,pre:=fun J=>[],res:=fun J Z=>.ok (.ret (.ref (J 0))),post:=fun J Z=>[],new:=fun J Z=>[lst [.ref (J 1),.ref (J 2),.ref (J 3),.ref (J 4),.ref (J 5)] 5,ro [(2,(Z 0)),(2,(Z 0)),(3,(Z 1)),(3,(Z 1)),(3,(Z 2)),(3,(Z 2))] 2,ro [(2,(Z 3)),(2,(Z 0)),(2,(Z 0)),(3,(Z 1)),(4,(Z 4)),(4,(Z 4))] 2,ro [(1,(Z 5)),(3,(Z 6)),(3,(Z 7)),(3,(Z 7)),(4,(Z 8)),(4,(Z 8))] 2,ro [(1,(Z 5)),(2,(Z 3)),(4,(Z 9)),(4,(Z 9)),(4,(Z 10)),(4,(Z 10))] 2,ro [(1,(Z 5)),(2,(Z 3)),(3,(Z 6)),(4,(Z 9)),(5,(Z 11)),(5,(Z 11))] 2] }
noncomputable def rows_hs (b1 b2:Bool):List Nat:=[0,0,1,1,1,1,1,0,0,1,5,5,5,5,5,5,5,5,5,5,6,1]
noncomputable def rows_cs (Pw:Params)(ct:Nat)(b1 b2:Bool):List Ev:=[evX (fun J Z=>X_rl0 Pw (pick [(Z 0),ct,(Z 2),(Z 1)] 0) (pick [] 0)) [0,1,5,3,2] 11 6 7]
theorem run_rows (ct:Nat)(Pw:Params):∀ (b1 b2:Bool) (J Z:Nu),RD (X_rows ct) Pw b1 b2 78 (rows_hs b1 b2) (rows_cs Pw ct b1 b2) [6,8,11,14,20,21] [9,10,11,12,15,20,18,19,21,26,28,29] J Z
  | true,b2,J,Z=>by kernel_rfl
  | false,b2,J,Z=>by kernel_rfl
theorem ok_rows (w:World){ct:Nat}  : (X_rows ct).Ok w :=
  ok_of_run (hs:=rows_hs (row1 w) (row2 w)) (cs:=rows_cs w.params ct (row1 w) (row2 w)) (ns:=[6,8,11,14,20,21]) (ts:=[9,10,11,12,15,20,18,19,21,26,28,29]) (vc (fun J Z=>ok_rl0 w) rfl (va_nil)) rfl rfl (by decide) (show ∀ j∈([6,8,11,14,20,21]:List Nat),0≤j by decide) (run_rows ct w.params (row1 w) (row2 w))
end
section
open PySem PySem.W PySem.W.X PySem.Spec PySem.Calls
set_option maxHeartbeats 1000000
def StOk (w:World)(X:Spec)(sts:List Stmt)(env:Nu→Env):Prop :=
  ∀ (J:Nu) (A:Around) (s:Shared),Small A X.d→(∀ a o,gl w.params a=some o→s.heap.get? a=some o)→Has s.heap (rng X.n0 J) (X.pre (trunc X.n0 J))→(rng X.n0 J).Nodup →
    (∀ a∈rng X.n0 J,gl w.params a=none∧183≤a)→wpAt (model prg w) A (X.code (trunc X.n0 J)) (execs sts (env J)) (fun f s'=>∃ μ θ,Ends w X J s (.ok f) s' μ θ) (fun _ _=>False) s
noncomputable def seqX (X1:Spec)(k2 nt2:Nat)(X2:Nu→Spec):Spec :=
  { n0:=X1.n0,k:=X1.k+k2,nt:=X1.nt+nt2,d:=X1.d,code:=X1.code,pre:=X1.pre,
    res:=fun μ θ=>(X2 (trunc X1.nt θ)).res μ (shift X1.nt θ),
    post:=fun μ θ=>((X2 (trunc X1.nt θ)).post μ (shift X1.nt θ)).take X1.n0,
    new:=fun μ θ=>((X2 (trunc X1.nt θ)).post μ (shift X1.nt θ)).drop X1.n0++(X2 (trunc X1.nt θ)).new μ (shift X1.nt θ) }
theorem rng_add (n k:Nat)(J:Nu):rng (n+k) J=rng n J++(List.range k).map fun j=>J (n+j):=by
  unfold rng
  rw [List.range_add,List.map_append,List.map_map];rfl
theorem has_split {h:Heap}{as bs:List Addr}{os:List Obj}(H:Has h (as++bs) os):Has h as (os.take as.length)∧Has h bs (os.drop as.length):=by
  have hl:=H.len
  rw [List.length_append] at hl
  exact (has_app (as:=as) (bs:=bs) (xs:=os.take as.length) (ys:=os.drop as.length) (by rw [List.length_take];omega)).mp (by rw [List.take_append_drop];exact H)
theorem execs_two' {M:Model}{Γ:PySem.Ctx}{env:Env}{b:List Stmt}{Q:Flow→Pos→Shared→Prop}{E:Value→Pos→Shared→Prop}:∀ {a:List Stmt} {p:Pos} {s:Shared},
    Sem.wp M Γ (execs a env) (fun f p' s'=>match f with | .next=>Sem.wp M Γ (execs b env) Q E p' s' | f=>Q f p' s') E p s→Sem.wp M Γ (execs (a++b) env) Q E p s
  | [],p,s,h=>by
    rw [execs_nil,Sem.wp_pure'] at h
    exact h
  | st::a,p,s,h=>by
    rw [execs_cons,Sem.wp_bind'] at h
    show Sem.wp _ _ (execs (st::(a++b)) env) _ _ _ _
    rw [execs_cons,Sem.wp_bind']
    refine Sem.wp_mono M Γ _ (fun f p' s' h'=>?_) (fun _ _ _ h'=>h') p s h
    cases f with
    | next=>exact execs_two' h'
    | _=>exact h'
theorem execs_two {M:Model}{A:Around}{c:Code}{env:Env}{a b:List Stmt}{Q:Flow→Shared→Prop}{E:Value→Shared→Prop}{s:Shared}
    (h:wpAt M A c (execs a env) (fun f s'=>match f with | .next=>wpAt M A c (execs b env) Q E s' | f=>Q f s') E s):wpAt M A c (execs (a++b) env) Q E s:=fun Γ p hc hΓ=>by
  refine execs_two' (Sem.wp_mono M Γ _ (fun f p' s' h'=>?_) (fun _ _ _ h'=>h') p s (h Γ p hc hΓ))
  cases f with
  | next=>exact h' Γ p' hc hΓ
  | _=>exact h'
theorem seq_ok {w:World}{X1:Spec}{k2 nt2:Nat}{X2:Nu→Spec}{st1 st2:List Stmt}{env:Nu→Env}{n1:Nat}(hn1:X1.n0+X1.k=n1)
    (h1:StOk w X1 st1 env) (h2:∀ θ,StOk w (X2 θ) st2 env) (hr:∀ μ θ,X1.res μ θ=.ok .next) (hl:∀ μ θ,(X1.post μ θ).length=X1.n0) (hn:∀ θ,(X2 θ).n0=n1) (hk:∀ θ,(X2 θ).k=k2) (ht:∀ θ,(X2 θ).nt=nt2) (hd:∀ θ,(X2 θ).d=X1.d)
    (hp:∀ μ θ,(X2 θ).pre μ=X1.post μ θ++X1.new μ θ) (hl2:∀ μ θ θ',((X2 θ).post μ θ').length=n1)
    (he:∀ μ J,Agree X1.n0 μ J→env μ=env J) (hc:∀ μ J θ,Agree X1.n0 μ J→(X2 θ).code μ=X1.code J):StOk w (seqX X1 k2 nt2 X2) (st1++st2) env:=by
  intro J A s sA hg hpre hnd hout
  have hnd:(rng X1.n0 J).Nodup:=hnd
  have hout:∀ a∈rng X1.n0 J,gl w.params a=none∧183≤a:=hout
  have hpre:Has s.heap (rng X1.n0 J) (X1.pre (trunc X1.n0 J)):=hpre
  show wpAt _ _ (X1.code (trunc X1.n0 J)) _ _ _ s
  refine execs_two (ks_wpAt_mono (h1 J A s sA hg hpre hnd hout) ?_ (fun _ _ z=>z))
  rintro f s1 ⟨μ,θ,E1⟩
  have e1:=E1.res
  rw [hr μ θ] at e1
  cases e1
  dsimp only
  have nuZ:trunc n1 μ=μ:=trunc_self fun j hj=>E1.nuZ j (by omega)
  have tauZ:trunc X1.nt θ=θ:=trunc_self E1.tauZ
  have er:rng n1 μ=rng X1.n0 J++(List.range X1.k).map fun j=>μ (X1.n0+j):=by rw [← hn1,rng_add,rng_congr E1.agree]
  have hl0:(X1.post μ θ).length=X1.n0:=hl μ θ
  have H1:Has s1.heap (rng n1 μ) ((X2 θ).pre (trunc n1 μ)):=by
    rw [er,nuZ,hp]
    exact (has_app (by rw [rng_len,hl0])).mpr ⟨E1.post,E1.new⟩
  have lts:∀ a∈rng X1.n0 J,a<s.heap.objs.size:=has_mem hpre
  have fr:∀ a∈(List.range X1.k).map (fun j=>μ (X1.n0+j)),s.heap.objs.size≤a:=fun a ha=>by
    obtain ⟨j,hj,rfl⟩:=List.mem_map.mp ha
    exact E1.fresh j (List.mem_range.mp hj)
  have nd1:(rng n1 μ).Nodup:=by
    rw [er,List.nodup_append]
    refine ⟨hnd,?_,fun a ha b hb z=>?_⟩
    · rw [List.Nodup,List.pairwise_map]
      refine List.Pairwise.imp_of_mem (fun {a b} ha hb hab z=>?_) (List.pairwise_lt_range (n:=X1.k))
      have:=E1.inj a b (List.mem_range.mp ha) (List.mem_range.mp hb) z
      omega
    · have q1:=lts a ha
      have q2:=fr b hb
      rw [z] at q1
      exact absurd q1 (Nat.not_lt.mpr q2)
  have out1:∀ a∈rng n1 μ,gl w.params a=none∧183≤a:=fun a ha=>by
    rw [er] at ha
    rcases List.mem_append.mp ha with h | h
    · exact hout a h
    · refine ⟨?_,Nat.le_trans (gl_big hg) (fr a h)⟩
      cases q:gl w.params a with
      | none=>rfl
      | some o=>exact absurd (Heap.lt_size (hg a o q)) (Nat.not_lt.mpr (fr a h))
  have key:=h2 θ μ A s1 (by rw [hd];exact sA) E1.after.glob
  rw [hn θ,nuZ] at key
  have ag:Agree X1.n0 μ (trunc X1.n0 J):=fun j hj=>(E1.agree j hj).trans (trunc_lt J hj).symm
  rw [hc μ (trunc X1.n0 J) θ ag,he μ J E1.agree] at key
  rw [nuZ] at H1
  refine ks_wpAt_mono (key H1 nd1 out1) ?_ (fun _ _ z=>z)
  rintro f s2 ⟨μ2,θ2,E2⟩
  have A2:=E2.agree;have Z2:=E2.nuZ;have T2:=E2.tauZ;have P2:=E2.post;have N2:=E2.new;have F2:=E2.fresh;have I2:=E2.inj;have K2:=E2.after
  rw [hn θ] at A2 Z2 P2 N2 F2 I2 K2
  rw [hk θ] at Z2 N2 F2 I2
  rw [ht θ] at T2
  have t1:trunc X1.nt (both X1.nt θ θ2)=θ:=by
    exact (trunc_eq fun j hj=>both_lt hj).trans tauZ
  have t2:shift X1.nt (both X1.nt θ θ2)=θ2:=by
    funext j
    show both X1.nt θ θ2 (X1.nt+j)=_
    rw [both_ge (by omega),Nat.add_sub_cancel_left]
  have lo:∀ j,j<n1→μ2 j=μ j:=A2
  have F:After (gl w.params) (rng X1.n0 J) s s2:=after_trans E1.after K2 fun b hb=>by
    rw [er] at hb
    rcases List.mem_append.mp hb with h | h
    · exact .inl h
    · exact .inr (fr b h)
  obtain ⟨Pa,Pb⟩:=has_split (as:=rng X1.n0 J) (by rw [← er];exact P2)
  rw [rng_len] at Pa Pb
  have eqn:(List.range (X1.k+k2)).map (fun j=>μ2 (X1.n0+j))=(List.range X1.k).map (fun j=>μ (X1.n0+j))++(List.range k2).map (fun j=>μ2 (n1+j)):=by
    rw [List.range_add,List.map_append,List.map_map]
    congr 1
    · exact List.map_congr_left fun j hj=>lo _ (by have:=List.mem_range.mp hj;omega)
    · refine List.map_congr_left fun j _=>?_
      show μ2 (X1.n0+(X1.k+j))=_
      rw [← hn1,Nat.add_assoc]
  refine ⟨μ2,both X1.nt θ θ2,fun j hj=>?_,fun j hj=>?_,fun j hj=>?_,?_,?_,?_,fun j hj=>?_,fun j j' hj hj' z=>?_,F⟩
  · have hj:j<X1.n0:=hj
    exact (lo j (by omega)).trans (E1.agree j hj)
  · have hj:X1.n0+(X1.k+k2)≤j:=hj
    exact Z2 j (by omega)
  · have hj:X1.nt+nt2≤j:=hj
    rw [both_ge (by omega)]
    exact T2 _ (by omega)
  · show _=(X2 (trunc X1.nt (both X1.nt θ θ2))).res μ2 (shift X1.nt (both X1.nt θ θ2))
    rw [t1,t2];exact E2.res
  · show Has _ (rng X1.n0 J) (((X2 (trunc X1.nt (both X1.nt θ θ2))).post μ2 (shift X1.nt (both X1.nt θ θ2))).take X1.n0)
    rw [t1,t2];exact Pa
  · show Has _ ((List.range (X1.k+k2)).map fun j=>μ2 (X1.n0+j)) (((X2 (trunc X1.nt (both X1.nt θ θ2))).post μ2 (shift X1.nt (both X1.nt θ θ2))).drop X1.n0++(X2 (trunc X1.nt (both X1.nt θ θ2))).new μ2 (shift X1.nt (both X1.nt θ θ2)))
    rw [t1,t2,eqn]
    refine (has_app ?_).mpr ⟨Pb,N2⟩
    rw [List.length_map,List.length_range,List.length_drop,hl2];omega
  · have hj:j<X1.k+k2:=hj
    by_cases h:j<X1.k
    · show s.heap.objs.size≤μ2 (X1.n0+j)
      rw [lo _ (by omega)]
      exact E1.fresh j h
    · have:=F2 (j-X1.k) (by omega)
      rw [show n1+(j-X1.k)=X1.n0+j from by clear this;omega] at this
      show s.heap.objs.size≤μ2 (X1.n0+j)
      exact Nat.le_trans E1.after.size this
  · have hj:j<X1.k+k2:=hj
    have hj':j'<X1.k+k2:=hj'
    have z:μ2 (X1.n0+j)=μ2 (X1.n0+j'):=z
    have l1:∀ x,x<X1.k→μ2 (X1.n0+x)=μ (X1.n0+x):=fun x hx=>lo _ (by omega)
    have lt1:∀ x,x<X1.k→μ (X1.n0+x)<s1.heap.objs.size:=fun x hx=>has_mem E1.new _ (List.mem_map.mpr ⟨x,List.mem_range.mpr hx,rfl⟩)
    have ge1:∀ x,X1.k≤x→x<X1.k+k2→s1.heap.objs.size≤μ2 (X1.n0+x):=fun x hx hx2=>by
      have:=F2 (x-X1.k) (by omega)
      rw [show n1+(x-X1.k)=X1.n0+x from by omega] at this
      exact this
    by_cases h:j<X1.k
    · by_cases h':j'<X1.k
      · rw [l1 j h,l1 j' h'] at z
        exact E1.inj j j' h h' z
      · have a1:=lt1 j h
        have a2:=ge1 j' (by omega) hj'
        rw [l1 j h] at z
        omega
    · by_cases h':j'<X1.k
      · have a1:=lt1 j' h'
        have a2:=ge1 j (by omega) hj
        rw [l1 j' h'] at z
        omega
      · have:=I2 (j-X1.k) (j'-X1.k) (by omega) (by omega) (by rw [show n1+(j-X1.k)=X1.n0+j from by omega,show n1+(j'-X1.k)=X1.n0+j' from by omega];exact z)
        omega
theorem func_ok {w:World}{X:Spec}{body:List Stmt}{env:Nu→Env}{d:Nat}(hd:d+1≤X.d)(hc:∀ J,X.code (trunc X.n0 J)=.func body (env J))(hr:∀ μ θ,∃ v,X.res μ θ=.ok (.ret v))(h:StOk w X body env):({ X with d:=d }:Spec).Ok w:=by
  intro J A s sA hg hp hnd hout
  show codeAny _ _ (X.code (trunc X.n0 J)) _ s
  rw [hc]
  refine ks_codeAny_funcAt ?_
  have key:=h J (A.deeper (env J)) s (small_deeper sA hd) hg hp hnd hout
  rw [hc] at key
  refine ks_wpAt_mono key ?_ (fun _ _ z=>z.elim)
  rintro f s' ⟨μ,θ,E⟩
  obtain ⟨v,e⟩:=hr μ θ
  have e2:=E.res
  rw [e] at e2
  cases e2
  exact ⟨μ,θ,E.agree,E.nuZ,E.tauZ,e.symm,E.post,E.new,E.fresh,E.inj,E.after⟩
end
section
open PySem PySem.W PySem.W.X PySem.Spec PySem.Calls PyProof.Rows PyProof.V
set_option maxHeartbeats 1000000
noncomputable def X_imod (a:Int)(t:Nat)(b:Int)(u:Nat)(c:Int):Spec:=X_tok (.builtin "int.__mod__" ⟨[.int a t,.int b u],[]⟩) (fun t=>.int c t)
theorem ok_imod {w:World}{a b c:Int}{t u:Nat}(hb:0<b)(h:a%b=c):(X_imod a t b u c).Ok w:=by
  have g:=AutoIntG6.int___mod___int_int_1 a t b u (by simp;omega)
  rw [Int.fmod_eq_emod_of_nonneg _ (by omega),h] at g
  exact ok_tok (con_int (by decide +kernel) (entryFor_of_tree (by kernel_rfl)) g)
noncomputable def X_imul (a:Int)(t:Nat)(b:Int)(u:Nat)(c:Int):Spec:=X_tok (.builtin "int.__mul__" ⟨[.int a t,.int b u],[]⟩) (fun t=>.int c t)
theorem ok_imul {w:World}{a b c:Int}{t u:Nat}(ha:Nat.ble (Builtin.Int.intBits a) 64=true)(h:a*b=c):(X_imul a t b u c).Ok w:=by
  have g:=AutoIntG1.int___mul___int_int_0 a t b u (IntMulOk.of_left (Nat.le_of_ble_eq_true ha))
  rw [h] at g
  exact ok_tok (con_int (by decide +kernel) (entryFor_of_tree (by kernel_rfl)) g)
noncomputable def X_ieq (a:Int)(t:Nat)(b:Int)(u:Nat)(r:Bool):Spec:=X_val (.builtin "int.__eq__" ⟨[.int a t,.int b u],[]⟩) (.bool r)
theorem ok_ieq {w:World}{a b:Int}{t u:Nat}{r:Bool}(h:(a==b)=r):(X_ieq a t b u r).Ok w :=
  ok_val (con_val (by decide +kernel) (entryFor_of_tree (by kernel_rfl)) (show Gives _ (.val (.bool r)) from h▸(show Gives _ (.val (.bool (a==b))) from AutoIntG7.int___eq___int_int_0 a t b u)))
noncomputable def X_ine (a:Int)(t:Nat)(b:Int)(u:Nat)(r:Bool):Spec:=X_val (.builtin "int.__ne__" ⟨[.int a t,.int b u],[]⟩) (.bool r)
theorem ok_ine {w:World}{a b:Int}{t u:Nat}{r:Bool}(h:(a != b)=r):(X_ine a t b u r).Ok w :=
  ok_val (con_val (by decide +kernel) (entryFor_of_tree (by kernel_rfl)) (show Gives _ (.val (.bool r)) from h▸(show Gives _ (.val (.bool (a != b))) from AutoIntG6.int___ne___int_int_0 a t b u)))
noncomputable def X_iadd2 (a:Int)(t:Nat)(b:Int)(u:Nat)(c:Int):Spec:=X_tok (.builtin "int.__add__" ⟨[.int a t,.int b u],[]⟩) (fun t=>.int c t)
theorem ok_iadd2 {w:World}{a b c:Int}{t u:Nat}(h:a+b=c):(X_iadd2 a t b u c).Ok w:=by
  have g:=AutoIntG4.int___add___int_int_0 a t b u
  rw [h] at g
  exact ok_tok (con_int (by decide +kernel) (entryFor_of_tree (by kernel_rfl)) g)
noncomputable def X_isub2 (a:Int)(t:Nat)(b:Int)(u:Nat)(c:Int):Spec:=X_tok (.builtin "int.__sub__" ⟨[.int a t,.int b u],[]⟩) (fun t=>.int c t)
theorem ok_isub2 {w:World}{a b c:Int}{t u:Nat}(h:a-b=c):(X_isub2 a t b u c).Ok w:=by
  have g:=AutoIntG9.int___sub___int_int_0 a t b u
  rw [h] at g
  exact ok_tok (con_int (by decide +kernel) (entryFor_of_tree (by kernel_rfl)) g)
noncomputable def dotS (n:Nat):Str:=⟨Array.replicate n 46⟩
noncomputable def X_strip (x:Str)(t u:Nat):Spec:=X_tok (.builtin "str.strip" ⟨[.str x t,.str ⟨#[46]⟩ u],[]⟩) (fun t=>.str ⟨#[]⟩ t)
theorem strip_dots (n:Nat):PySem.stripped (#[46]:Array Nat).contains true true (dotS n)=⟨#[]⟩:=by
  have h1:((dotS n).cps.toList.takeWhile (#[46]:Array Nat).contains).length=n:=by
    show ((Array.replicate n 46).toList.takeWhile _).length=n
    rw [Array.toList_replicate]
    induction n with
    | zero=>rfl
    | succ n ih =>
      rw [List.replicate_succ,List.takeWhile_cons,if_pos (by simp),List.length_cons,ih]
  unfold PySem.stripped stripLo
  rw [if_pos rfl,h1]
  refine str_ext ?_
  show ((dotS n).cps.extract n _).toList=[]
  rw [Array.toList_extract,List.extract_eq_take_drop,show (dotS n).cps.toList=List.replicate n 46 from Array.toList_replicate ..,List.drop_replicate,Nat.sub_self]
  simp
theorem ok_stripD {w:World}{n t u:Nat}:(X_strip (dotS n) t u).Ok w:=by
  have e:=strip_dots n
  refine ok_tok (con_made (c:=stripSame (#[46]:Array Nat).contains true true (dotS n)=true) (y:=dotS n) (t:=t) (by decide +kernel) (entryFor_of_tree (by kernel_rfl)) (e▸gives_str_strip_chars (dotS n) ⟨#[46]⟩ t u) (fun h=>?_) (Nat.zero_le _))
  unfold stripSame at h
  rw [Bool.and_eq_true] at h
  have h1:((dotS n).cps.toList.takeWhile (#[46]:Array Nat).contains).length=0:=eq_of_beq h.1
  match n,h1 with
  | 0,_=>rfl
  | n+1,h1 =>
    exfalso
    have:(dotS (n+1)).cps.toList=46::List.replicate n 46:=by show (Array.replicate (n+1) 46).toList=_;rw [Array.toList_replicate,List.replicate_succ]
    rw [this,List.takeWhile_cons,if_pos (by simp)] at h1
    cases h1
theorem sv_get {ps:List (Str×Tok)}{m:Nat}(hm:m<(strValues ps).toArray.size):∃ h:m<ps.length,(strValues ps).toArray[m]=.str ps[m].1 ps[m].2:=by
  have h:m<ps.length:=by simpa [strValues] using hm
  exact ⟨h,by simp [strValues]⟩
noncomputable def isS (x:Str):Value→Bool
  | .str y _=>y==x
  | _=>false
noncomputable def X_index (ps:List (Str×Tok))(e:Nat)(x:Str)(t j:Nat):Spec:={ n0:=1,k:=0,nt:=1,d:=900,code:=fun J=>.builtin "list.index" ⟨[.ref (J 0),.str x t],[]⟩,pre:=fun _=>[lst (strValues ps) e],res:=fun _ Z=>.ok (.ret (.int j (Z 0))),post:=fun _ _=>[lst (strValues ps) e],new:=fun _ _=>[] }
theorem ok_index {w:World}{ps:List (Str×Tok)}{e:Nat}{x:Str}{t j:Nat}(hj:j<ps.length)(hl:ps.length≤1000)(hit:(ps[j].1==x)=true)(hno:∀ m (hm:m<ps.length),m<j→(ps[m].1==x)=false):(X_index ps e x t j).Ok w:=by
  refine ok_of_con fun J=>?_
  refine con_builtin (b:=Builtin.«list.index») (by decide +kernel) (entryFor_of_tree (by kernel_rfl)) fun A s R sA hg hpre hnd hout hR=>?_
  have ho:=(has_cons.mp (show Has s.heap [J 0] [lst (strValues ps) e] from hpre)).1
  have hsz:(strValues ps).toArray.size=ps.length:=by simp [strValues]
  refine SeqAt.list_indexAt (J 0) (strValues ps).toArray e none #[] (.str x t) (isS x) j (by rw [hsz];exact hj) (by omega) ?_ ?_ prg w A R s ⟨ho,fun y hy=>?_,?_⟩
  · obtain ⟨_,e1⟩:=sv_get (ps:=ps) (m:=j) (by rw [hsz];exact hj)
    rw [e1];exact hit
  · intro m hm hlt
    obtain ⟨h1,e1⟩:=sv_get (ps:=ps) hm
    rw [e1];exact hno m h1 hlt
  · have hy:=List.mem_toArray.mp hy
    unfold strValues at hy
    obtain ⟨p,hp,rfl⟩:=List.mem_map.mp hy
    exact SeqAt.EqAt.str_str p.1 p.2 x t
  · exact hR _ _ ⟨[lst (strValues ps) e],[],⟨[s.toks],rfl,rfl,rfl,rfl,rfl⟩,hpre,(fun _ h=>by cases h),List.nodup_nil,After.same hg (Nat.le_succ _)⟩
noncomputable def rw5 (m:Str)(a:Nat)(l:Addr)(d:Str)(b:Nat)(z:Str)(c:Nat)(n:Int)(e:Nat):List Value:=[.str m a,.ref l,.str d b,.str z c,.int n e]
noncomputable def sv6 (qs:Nat→Str)(θ:Nat→Nat):List (Str×Tok):=[(qs 0,θ 0),(qs 1,θ 1),(qs 2,θ 2),(qs 3,θ 3),(qs 4,θ 4),(qs 5,θ 5)]
theorem strs_values:∀ (ps:List (Str×Tok)),StrsAre (strValues ps) (ps.map (·.1))
  | []=>.nil
  | p::ps=>.cons p.1 p.2 (strs_values ps)
theorem strs_inv:∀ {vs:List Value} {ss:List Str},StrsAre vs ss→∃ ps:List (Str×Tok),vs=strValues ps∧ps.map (·.1)=ss
  | _,_,.nil=>⟨[],rfl,rfl⟩
  | _,_,.cons x t h=>by
    obtain ⟨ps,h1,h2⟩:=strs_inv h
    exact ⟨(x,t)::ps,by rw [h1];rfl,by rw [← h2];rfl⟩
theorem sv6_of {qs:Nat→Str}{ps:List (Str×Tok)}(h:ps.map (·.1)=[qs 0,qs 1,qs 2,qs 3,qs 4,qs 5]):∃ us:List Nat,us.length=6∧ps=sv6 qs (fun j=>us.getD j 0):=by
  have hl:=congrArg List.length h
  rw [List.length_map] at hl
  rcases ps with _ | ⟨p0,_ | ⟨p1,_ | ⟨p2,_ | ⟨p3,_ | ⟨p4,_ | ⟨p5,_ | ⟨p6,ps⟩⟩⟩⟩⟩⟩⟩
  all_goals first
    | (simp at hl;done)
    | (simp only [List.map_cons,List.map_nil,List.cons.injEq,and_true] at h
       obtain ⟨h0,h1,h2,h3,h4,h5⟩:=h
       refine ⟨[p0.2,p1.2,p2.2,p3.2,p4.2,p5.2],rfl,?_⟩
       unfold sv6
       rw [← h0,← h1,← h2,← h3,← h4,← h5]
       rfl)
noncomputable def X_sortT (ps:List (Str×Tok))(e:Nat)(qs:Nat→Str):Spec:={ n0:=1,k:=0,nt:=7,d:=500,code:=fun J=>.builtin "list.sort" ⟨[.ref (J 0)],[]⟩,pre:=fun _=>[lst (strValues ps) e],res:=fun _ _=>.ok (.ret .none),post:=fun _ θ=>[lst (strValues (sv6 qs (fun j=>θ (j+1)))) (θ 0)],new:=fun _ _=>[] }
theorem ok_sortT {w:World}{ps:List (Str×Tok)}{e:Nat}{qs:Nat→Str}(h6:ps.length=6)(hq:∀ ss:List Str,ss.Perm (ps.map (·.1))→sortedS ss=true→ss=[qs 0,qs 1,qs 2,qs 3,qs 4,qs 5]):(X_sortT ps e qs).Ok w:=by
  refine ok_of_con fun J=>?_
  refine con_builtin (b:=Builtin.«list.sort») (by decide +kernel) (entryFor_of_tree (by kernel_rfl)) fun A s R sA hg hpre hnd hout hR=>?_
  have ho:s.heap.get? (J 0)=some (seqObj "list" (strValues ps).toArray e):=(has_cons.mp (show Has s.heap [J 0] [lst (strValues ps) e] from hpre)).1
  have hl:(strValues ps).length=6:=by unfold strValues;rw [List.length_map,h6]
  have hS:=strs_values ps
  refine wpAny_mono (wpAny_grow (list_sort_treeK (P:=fun fin s'=>fin=.done (.ret .none)∧∃ us:List Nat,us.length=7∧s'={ s with heap:=s'.heap }∧s'.heap.get? (J 0)=some (lst (strValues (sv6 qs (fun j=>us.getD (j+1) 0))) (us.getD 0 0))∧∀ b o,b≠J 0→s.heap.get? b=some o→s'.heap.get? b=some o) (E:=fun _ _=>False) strKind_oneLt ho hS.keysOf (fun v₁ v₂ rest e=>keyKind_strs (by rw [← e];exact hS)) (by omega) fun st' hp hs=>?_)) ?_ ?_
  · obtain ⟨ss',h1,h2,h3⟩:=sorted_out_str hS hp hs
    obtain ⟨qs',e1,e2⟩:=strs_inv h1
    rw [hq ss' h2 h3] at e2
    obtain ⟨us,hu,e3⟩:=sv6_of e2
    obtain ⟨c,hc⟩:=sortedHeap_at (vs:=strValues ps) (out:=(arrOf st').map (·.2)) ho
    refine ⟨rfl,c::us,by rw [List.length_cons,hu],rfl,?_,fun b o hb e=>(sortedHeap_old hb (Heap.lt_size e)).trans e⟩
    refine hc.trans ?_
    have:(arrOf st').map (·.2)=(strValues (sv6 qs (fun j=>us.getD j 0))).toArray:=by
      rw [← e3,← e1,Array.toArray_toList]
    rw [this]
    rfl
  · rintro fin s' ⟨⟨rfl,us,hu,es,h1,h2⟩,gr⟩
    refine hR _ _ ⟨[lst (strValues (sv6 qs (fun j=>us.getD (j+1) 0))) (us.getD 0 0)],[],⟨us,hu,rfl,rfl,rfl,rfl⟩,has_cons.mpr ⟨h1,rfl⟩,(fun _ h=>by cases h),List.nodup_nil,?_⟩
    rw [es]
    rw [es] at gr
    exact after_of hg (fun a ha=>(hout a ha).1) (fun b o hb e=>h2 b o (fun z=>hb (by rw [z];exact List.mem_cons_self ..)) e) gr
  · rintro e s' ⟨z,_⟩
    exact z.elim
end
section
open PySem PySem.W PySem.W.X PySem.Spec PySem.Calls PyProof.Rows PyProof.V
set_option maxHeartbeats 4000000
structure Like (s s':Shared):Prop where
  gens:s'.gens=s.gens
  drawn:s'.drawn=s.drawn
  os:s'.os=s.os
theorem Like.trans {a b c:Shared}(h:Like a b)(g:Like b c):Like a c:=⟨g.gens.trans h.gens,g.drawn.trans h.drawn,g.os.trans h.os⟩
theorem sort_tail {w:World}{A:Around}{E:Value→Shared→Prop}{s:Shared}{a kS:Addr}{e e1:Nat}{vs:List Value}{kz:List Int}{keys:Array Value}{P:PySem.Fin→Shared→Prop}{st:SortSt}
    (nk:s.heap.get? kS=some (seqObj "list" keys e)) (na:s.heap.get? a=some (seqObj "list" #[] e1)) (hka:kS≠a) (hk:IntsAre keys.toList kz) (hlen:kz.length=vs.length) (h64:vs.length<64)
    (hp:(arrOf st).Perm (keys.zip vs.toArray)) (hs:SortedTo (arrOf st) (arrOf st).size) (hfl:failedOf st=none)
    (h:∀ s' out c,Like s s'→s'.heap.get? a=some (seqObj "list" out c)→(∀ b o,b≠a→b≠kS→s.heap.get? b=some o→s'.heap.get? b=some o)→KskOut false kz vs out.toList→P (.done (.ret .none)) s') :
    wpAny (model prg w) A (ksk_tail a false e1 (.ref kS) st) P E s:=by
  have hsz:keys.size=vs.length:=by
    have h1:=hk.length
    rw [Array.length_toList] at h1
    omega
  have hout:((arrOf st).map (·.2)).size=vs.length:=by rw [Array.size_map,hp.size_eq,Array.size_zip,hsz,List.size_toArray,Nat.min_self]
  have s1:=Heap.SameBut.update s.heap kS (Obj.mapSeq fun _=>(#[]:Array Value))
  have na1:=(s1.2 a hka.symm).trans na
  have s2:=Heap.SameBut.update (s.heap.update kS (Obj.mapSeq fun _=>(#[]:Array Value))) a (Obj.mapSeq fun _=>(arrOf st).map (·.2))
  unfold ksk_tail
  try dsimp only
  refine wpAny_bind (listUpdate_at nk rfl ?_ (by rw [hsz,sizeLine_eq];omega) (Nat.zero_le _))
  refine wpAny_bind (wpAny_letGo ?_)
  refine wpAny_bind (seqEpoch_at na1 rfl ?_)
  simp only [Bool.false_eq_true,if_false]
  refine wpAny_bind (listUpdate_at na1 rfl ?_ (Nat.zero_le _) (Nat.le_trans (Nat.le_of_eq hout) (by rw [sizeLine_eq];omega)))
  rw [hfl]
  simp only [bne_self_eq_false,Bool.false_eq_true,if_false]
  obtain ⟨c2,hc2⟩:∃ c2,((s.heap.update kS (Obj.mapSeq fun _=>(#[]:Array Value))).update a (Obj.mapSeq fun _=>(arrOf st).map (·.2))).get? a=some (seqObj "list" ((arrOf st).map (·.2)) c2):=⟨_,get?_update_seq na1 fun _=>(arrOf st).map (·.2)⟩
  refine wpAny_pure (h _ _ c2 ⟨rfl,rfl,rfl⟩ hc2 (fun b o hb hb2 q=>(s2.2 b hb).trans ((s1.2 b hb2).trans q)) ?_)
  have:=ksk_out (b:=false) hk hp hs
  simpa using this
theorem sort_key {w:World}{A:Around}{E:Value→Shared→Prop}{s:Shared}{a:Addr}{f:Value}{n:Nat}{vs:List Value}{kz:List Int}{P:PySem.Fin→Shared→Prop}
    (ho:s.heap.get? a=some (seqObj "list" vs.toArray n)) (hlen:kz.length=vs.length) (h2:2≤vs.length) (h64:vs.length<64)
    (turn:∀ (i:Nat) (v:Value) (k:Int),vs[i]?=some v→kz[i]?=some k→∀ s',(∀ b o,b≠a→s.heap.get? b=some o→s'.heap.get? b=some o) →
      wpAny (model prg w) A (call f [v]) (fun r s''=>(∃ t,r=.int k t)∧(∀ b o,s'.heap.get? b=some o→s''.heap.get? b=some o)∧Like s' s'') (fun _ _=>False) s')
    (h:∀ s' out c,Like s s'→s'.heap.get? a=some (seqObj "list" out c)→(∀ b o,b≠a→s.heap.get? b=some o→s'.heap.get? b=some o)→KskOut false kz vs out.toList→P (.done (.ret .none)) s') :
    wpAny (model prg w) A (ksk_tree a f false) P E s:=by
  have ha:a<s.heap.objs.size:=Heap.lt_size ho
  have s1:=Heap.SameBut.update s.heap a (Obj.mapSeq fun _=>(#[]:Array Value))
  obtain ⟨e1,ho1⟩:∃ e1,(s.heap.update a (Obj.mapSeq fun _=>(#[]:Array Value))).get? a=some (seqObj "list" #[] e1):=⟨_,get?_update_seq ho fun _=>#[]⟩
  have hkS:((s.heap.update a (Obj.mapSeq fun _=>(#[]:Array Value))).push (seqObj "tuple" vs.toArray 0)).objs.size=s.heap.objs.size+1:=by rw [size_push',Heap.size_update]
  unfold ksk_tree
  refine wpAny_bind (listItems_at ho rfl ?_)
  refine wpAny_bind (listUpdate_at ho rfl ?_ (by rw [List.size_toArray,sizeLine_eq];omega) (Nat.zero_le _))
  refine wpAny_bind (seqEpoch_at ho1 rfl ?_)
  refine wpAny_bind (wpAny_newTuple ?_ (by show vs.length≤_;rw [sizeLine_eq];omega))
  refine wpAny_bind (wpAny_newList ?_ (Nat.zero_le _))
  refine wpAny_holding ?_
  rw [hkS]
  have hka:s.heap.objs.size+1≠a:=Nat.ne_of_gt (Nat.lt_succ_of_lt ha)
  unfold ksk_rest
  refine wpAny_bind (wpAny_rule ?_)
  first
    | rw [List.forIn_toArray]
    | (rw [← Array.forIn_toList];simp only [List.toList_toArray])
    | rw [← Array.forIn_toList]
  refine wpAny_bind (ksk_fold (fun i s'=>∃ kA e,Like s s'∧IntsAre kA.toList (kz.take i)∧s'.heap.get? (s.heap.objs.size+1)=some (seqObj "list" kA e)∧s'.heap.get? a=some (seqObj "list" #[] e1)∧∀ b o,b≠a→s.heap.get? b=some o→s'.heap.get? b=some o) vs 0 _
    ⟨#[],0,⟨rfl,rfl,rfl⟩,by simpa using IntsAre.nil,?k1,?k2,?k3⟩ ?step ?done)
  case k1 =>
    have:=Heap.get?_push_size ((s.heap.update a (Obj.mapSeq fun _=>(#[]:Array Value))).push (seqObj "tuple" vs.toArray 0)) (o:=seqObj "list" #[] 0) rfl
    rwa [hkS] at this
  case k2=>exact Heap.get?_push_of_some _ (Heap.get?_push_of_some _ ho1)
  case k3=>exact fun b o hb q=>Heap.get?_push_of_some _ (Heap.get?_push_of_some _ ((s1.2 b hb).trans q))
  case step =>
    rintro j x s' hx ⟨kA,e,lk,hk,nk,na,kp⟩
    simp only [Nat.zero_add] at hk ⊢
    have hj:j<vs.length:=(List.getElem?_eq_some_iff.mp hx).1
    obtain ⟨k,hkj⟩:∃ k,kz[j]?=some k:=⟨_,List.getElem?_eq_getElem (by omega)⟩
    have hz:kA.size≤vs.length:=by
      have h1:=hk.length
      rw [Array.length_toList,List.length_take] at h1
      omega
    refine wpAny_bind (wpAny_attempt (wpAny_mono (turn j x k hx hkj s' kp) (fun v s'' he=>?_) fun _ _ hF=>hF.elim))
    obtain ⟨⟨t2,rfl⟩,kp2,lk2⟩:=he
    try dsimp only
    have nk2:=kp2 _ _ nk
    have u1:=Heap.SameBut.update s''.heap (s.heap.objs.size+1) (Obj.mapSeq (·.push (.int k t2)))
    obtain ⟨c2,hc2⟩:∃ c2,(s''.heap.update (s.heap.objs.size+1) (Obj.mapSeq (·.push (.int k t2)))).get? (s.heap.objs.size+1)=some (seqObj "list" (kA.push (.int k t2)) c2):=⟨_,get?_update_seq nk2 (·.push (.int k t2))⟩
    have ek:kz.take (j+1)=kz.take j++[k]:=by rw [List.take_add_one,hkj];simp
    have ea:(kA.push (Value.int k t2)).toList=kA.toList++[Value.int k t2]:=by simp
    refine wpAny_bind (listUpdate_at nk2 rfl ?_ (by rw [sizeLine_eq];omega) (Nat.le_trans (Nat.le_of_eq (Array.size_push ..)) (by rw [sizeLine_eq];omega)))
    refine wpAny_pure ⟨rfl,kA.push (.int k t2),c2,lk.trans (lk2.trans ⟨rfl,rfl,rfl⟩),by rw [ea,ek];exact ksk_snoc hk,hc2,(u1.2 a hka.symm).trans (kp2 _ _ na),fun b o hb q=>(u1.2 b fun z=>?_).trans (kp2 _ _ (kp b o hb q))⟩
    have:=Heap.lt_size q
    rw [z] at this
    exact absurd this (Nat.not_lt.mpr (Nat.le_succ _))
  case done =>
    rintro s' ⟨kA,e,lk,hk,nk,na,kp⟩
    have hk':IntsAre kA.toList kz:=by
      have e3:kz.take (0+vs.length)=kz:=List.take_of_length_le (by omega)
      rw [e3] at hk
      exact hk
    try dsimp only
    refine wpAny_bind (listItems_at nk rfl ?_)
    have hsz:kA.size=vs.length:=by
      have h1:=hk'.length
      rw [Array.length_toList] at h1
      omega
    have hzs:(kA.zip vs.toArray).size=vs.length:=by rw [Array.size_zip,hsz,List.size_toArray,Nat.min_self]
    unfold ksk_end
    simp only [Bool.false_eq_true,if_false]
    rw [if_neg (by rw [List.size_toArray];omega),if_neg (by rw [List.size_toArray];omega),ksk_kind hk' (by rw [hsz];omega)]
    refine wpAny_bind (wpAny_pure ?_)
    refine wpAny_bind (wpAny_mono (wpS_sortRuns (a₀:=kA.zip vs.toArray) (st:=SortSt.mk' oneType' (kA.zip vs.toArray) #[] 7 none)
      (Q:=fun _ st'=>(arrOf st').Perm (kA.zip vs.toArray)∧failedOf st'=none∧SortedTo (arrOf st') (kA.zip vs.toArray).size)
      (ksk_intKeys hk') ⟨Array.Perm.refl _,rfl,rfl,rfl⟩ (by rw [hzs];omega) (by rw [hzs];exact h64) fun st' a1 a2 a3=>⟨a1,a2,a3⟩) ?_ fun _ _ e=>e)
    rintro ⟨⟨⟩,st'⟩ s' ⟨rfl,hp,hf,hs⟩
    try dsimp only
    refine sort_tail nk na hka hk' hlen h64 hp (by rw [hp.size_eq];exact hs) hf fun s3 out c lk3 g1 g2 ko=>h s3 out c (lk.trans lk3) g1 (fun b o hb q=>g2 b o hb (fun z=>?_) (kp b o hb q)) ko
    have:=Heap.lt_size q
    rw [z] at this
    exact absurd this (Nat.not_lt.mpr (Nat.le_succ _))
end
section
open PySem PySem.W PySem.W.X PySem.Spec PySem.Calls
set_option maxHeartbeats 1000000
noncomputable def lwB:List Stmt:=fnB 17
noncomputable abbrev sScript:Str:=⟨#[115,99,114,105,112,116]⟩
noncomputable abbrev sNames:Str:=⟨#[110,97,109,101,115]⟩
noncomputable abbrev sWeights:Str:=⟨#[119,101,105,103,104,116,115]⟩
noncomputable abbrev sOrder:Str:=⟨#[111,114,100,101,114]⟩
noncomputable abbrev sLast:Str:=⟨#[108,97,115,116]⟩
noncomputable abbrev sMail:Str:=⟨#[109,97,105,108]⟩
noncomputable abbrev sReader:Str:=⟨#[114,101,97,100,101,114]⟩
noncomputable abbrev sTold:Str:=⟨#[116,111,108,100]⟩
noncomputable abbrev sDots:Str:=⟨#[100,111,116,115]⟩
noncomputable abbrev sDepths:Str:=⟨#[100,101,112,116,104,115]⟩
noncomputable abbrev sFalling:Str:=⟨#[102,97,108,108,105,110,103]⟩
noncomputable abbrev sLeast:Str:=⟨#[108,101,97,115,116]⟩
noncomputable abbrev sName:Str:=⟨#[110,97,109,101]⟩
noncomputable def lwE (J:Nu):Env:={ scope:=fnS 17,locals:=J 3,globals:=3,cells:=[(sWeights,J 10),(sFalling,J 9),(sDepths,J 8),(sTold,J 7),(sReader,J 6),(sNames,J 5),(sScript,J 4)],qual:=("law.<locals>." : Str),func:=some 212,code:=.ref 211,frame:=some (J 3),builtins:=0 }
noncomputable def lwF (fr:Nat):Env:=lwE (fun j=>match j with | 3=>fr | _=>0)
noncomputable def cell0:Obj:={ cls:=.type "cell",data:=.cell none }
noncomputable def stOf (j:Nat):Stmt:=(lwB.drop j).headD default
noncomputable def forOf:Stmt→Expr×List Stmt
  | .For t _ b _ _=>(t,b)
  | _=>(default,[])
noncomputable def lwC1:Expr:=asgE (stOf 1)
noncomputable def lamK:LamP:=match asgE (stOf 2) with
  | .Call _ _ (⟨_,.Lambda a e s _,_⟩::_) _=>(a,.expr e,s)
  | _=>(default,default,default)
noncomputable abbrev sKeyQ:Str:=⟨#[108,97,119,46,60,108,111,99,97,108,115,62,46,60,108,97,109,98,100,97,62]⟩
noncomputable def keyO (p:LamP)(cell co ct:Nat):Obj:={ cls:=.type "function",data:=.func { name:=sLambda,qualname:=sKeyQ,params:=p.1,body:=p.2.1,scope:=p.2.2,globals:=3,closure:=[(sWeights,cell)],defaults:=.none,kwdefaults:=.none,pyModule:=.str sLawMod 517,code:=.ref co,closureTuple:=.ref ct,builtins:=0 } }
noncomputable def wI (W wt:Nat→Nat):List Iv:=[((W 0:Nat),wt 0),((W 1:Nat),wt 1),((W 2:Nat),wt 2),((W 3:Nat),wt 3),((W 4:Nat),wt 4),((W 5:Nat),wt 5)]
end
section
open PySem PySem.W PySem.W.X PySem.Spec PySem.Calls
set_option maxHeartbeats 0
theorem wI_get {W wt:Nat→Nat}{k:Nat}(hk:k<6):((wI W wt).map (·.1))[((k:Nat):Int).toNat]?=some ((W k:Nat):Int):=by
  rw [Int.toNat_natCast]
  match k,hk with
  | 0,_=>rfl
  | 1,_=>rfl
  | 2,_=>rfl
  | 3,_=>rfl
  | 4,_=>rfl
  | 5,_=>rfl
noncomputable def X_key (v0:Value)(q:Str)(tq:Nat)(rest:List Value)(ct:Nat)(W wt:Nat→Nat)(we k tk:Nat):Spec:={ n0:=4,k:=0,nt:=1,d:=520,code:=fun J=>.call (.ref (J 0)) ⟨[.int (k:Nat) tk],[]⟩,pre:=fun J=>[keyO lamK (J 2) (J 1) ct,codO v0 q tq rest,cellO (.ref (J 3)),ro (wI W wt) we],res:=fun J Z=>.ok (.ret (.int (-((W k:Nat):Int)) (Z 0))),post:=fun J Z=>[keyO lamK (J 2) (J 1) ct,codO v0 q tq rest,cellO (.ref (J 3)),ro (wI W wt) we],new:=fun J Z=>[] }
noncomputable def key_hs (b1 b2:Bool):List Nat:=[1,2,5,5,1,3,5,4,4,4,4]
noncomputable def key_cs (Pw:Params)(v0:Value)(q:Str)(tq:Nat)(rest:List Value)(ct:Nat)(W wt:Nat→Nat)(we k tk:Nat)(b1 b2:Bool):List Ev:=[evX (fun J Z=>X_getN (wI W wt) we k tk (W k:Nat)) [3] 2 5 1]
theorem run_key (v0:Value)(q:Str)(tq:Nat)(rest:List Value)(ct:Nat)(W wt:Nat→Nat)(we k tk:Nat)(Pw:Params):∀ (b1 b2:Bool) (J Z:Nu),RD (X_key v0 q tq rest ct W wt we k tk) Pw b1 b2 32 (key_hs b1 b2) (key_cs Pw v0 q tq rest ct W wt we k tk b1 b2) [] [2] J Z
  | true,b2,J,Z=>by kernel_rfl
  | false,b2,J,Z=>by kernel_rfl
theorem ok_key (w:World){v0:Value}{q:Str}{tq:Nat}{rest:List Value}{ct:Nat}{W wt:Nat→Nat}{we k tk:Nat}(hk:k<6):(X_key v0 q tq rest ct W wt we k tk).Ok w :=
  ok_of_run (hs:=key_hs (row1 w) (row2 w)) (cs:=key_cs w.params v0 q tq rest ct W wt we k tk (row1 w) (row2 w)) (ns:=[]) (ts:=[2]) (vc (fun J Z=>ok_getN (by omega) (by omega) (wI_get hk)) rfl (va_nil)) rfl rfl (by decide) (show ∀ j∈([]:List Nat),4≤j by decide) (run_key v0 q tq rest ct W wt we k tk w.params (row1 w) (row2 w))
end
section
open PySem PySem.W PySem.W.X PySem.Spec PySem.Calls PyProof.Rows PyProof.V
set_option maxHeartbeats 4000000
noncomputable def six0:List Nat:=[0,1,2,3,4,5]
theorem lt6 {k:Nat}:k∈six0↔k<6:=by rw [show six0=List.range 6 from rfl];exact List.mem_range
def Falls (W:Nat→Nat)(l:List Nat):Prop:=l.Perm six0∧l.Pairwise (fun a b=>W b≤W a)
noncomputable def sort6 (W:Nat→Nat):List Nat:=six0.mergeSort (fun a b=>decide (W b≤W a))
theorem falls_sort (W:Nat→Nat):Falls W (sort6 W):=by
  refine ⟨List.mergeSort_perm _ _,?_⟩
  have:=List.pairwise_mergeSort (le:=fun a b=>decide (W b≤W a)) (fun a b c h1 h2=>by simp at h1 h2 ⊢;omega) (fun a b=>by simp;omega) six0
  exact this.imp fun h=>by simpa using h
noncomputable def dec6 (n:Nat):List Nat:=[n%6,n / 6%6,n / 36%6,n / 216%6,n / 1296%6,n / 7776%6]
noncomputable def ord (W:Nat→Nat)(n:Nat):List Nat:=@ite _ (Falls W (dec6 n)) (Classical.propDecidable _) (dec6 n) (sort6 W)
theorem ord_falls (W:Nat→Nat)(n:Nat):Falls W (ord W n):=by
  unfold ord
  split
  · assumption
  · exact falls_sort W
theorem list6 {α:Type}{l:List α}(h:l.length=6):∃ a b c d e f,l=[a,b,c,d,e,f]:=by
  rcases l with _ | ⟨p0,_ | ⟨p1,_ | ⟨p2,_ | ⟨p3,_ | ⟨p4,_ | ⟨p5,_ | ⟨p6,ps⟩⟩⟩⟩⟩⟩⟩
  all_goals first
    | (simp at h;done)
    | exact ⟨_,_,_,_,_,_,rfl⟩
theorem dg {p n:Nat}(h:p<6):(p+6*n)%6=p:=by omega
theorem dv {p n:Nat}(h:p<6):(p+6*n) / 6=n:=by omega
theorem dec_n {a b c d e f:Nat}(ha:a<6)(hb:b<6)(hc:c<6)(hd:d<6)(he:e<6)(hf:f<6):dec6 (a+6*(b+6*(c+6*(d+6*(e+6*f)))))=[a,b,c,d,e,f]:=by
  have e36:∀ n,n / 36=n / 6 / 6:=fun n=>(Nat.div_div_eq_div_mul n 6 6).symm
  have e216:∀ n,n / 216=n / 6 / 6 / 6:=fun n=>by rw [Nat.div_div_eq_div_mul,Nat.div_div_eq_div_mul]
  have e1296:∀ n,n / 1296=n / 6 / 6 / 6 / 6:=fun n=>by rw [Nat.div_div_eq_div_mul,Nat.div_div_eq_div_mul,Nat.div_div_eq_div_mul]
  have e7776:∀ n,n / 7776=n / 6 / 6 / 6 / 6 / 6:=fun n=>by rw [Nat.div_div_eq_div_mul,Nat.div_div_eq_div_mul,Nat.div_div_eq_div_mul,Nat.div_div_eq_div_mul]
  unfold dec6
  rw [e36,e216,e1296,e7776,dv ha,dv hb,dv hc,dv hd,dv he,dg ha,dg hb,dg hc,dg hd,dg he,Nat.mod_eq_of_lt hf]
theorem dec_of {l:List Nat}(h:l.Perm six0):∃ n,dec6 n=l:=by
  have hm:∀ x∈l,x<6:=fun x hx=>lt6.mp (h.mem_iff.mp hx)
  obtain ⟨a,b,c,d,e,f,rfl⟩:=list6 (show l.length=6 from h.length_eq)
  exact ⟨_,dec_n (hm a (by simp)) (hm b (by simp)) (hm c (by simp)) (hm d (by simp)) (hm e (by simp)) (hm f (by simp))⟩
theorem ord_hit {W:Nat→Nat}{l:List Nat}(h:Falls W l):∃ n,ord W n=l:=by
  obtain ⟨n,hn⟩:=dec_of h.1
  refine ⟨n,?_⟩
  unfold ord
  rw [hn,if_pos h]
noncomputable def orI (W:Nat→Nat)(n:Nat):Nat→Nat:=fun j=>(ord W n).getD j 0
noncomputable def oI (o ot:Nat→Nat):List Iv:=[((o 0:Nat),ot 0),((o 1:Nat),ot 1),((o 2:Nat),ot 2),((o 3:Nat),ot 3),((o 4:Nat),ot 4),((o 5:Nat),ot 5)]
noncomputable abbrev sKey:Str:=⟨#[107,101,121]⟩
noncomputable def X_sortK (v0:Value)(q:Str)(tq:Nat)(rest:List Value)(ct:Nat)(W wt:Nat→Nat)(we:Nat)(it:Nat→Nat)(e:Nat):Spec :=
  { n0:=5,k:=0,nt:=8,d:=500,code:=fun J=>.builtin "list.sort" ⟨[.ref (J 0)],[(sKey,.ref (J 1))]⟩,
    pre:=fun J=>[ro (oI (fun j=>j) it) e,keyO lamK (J 3) (J 2) ct,codO v0 q tq rest,cellO (.ref (J 4)),ro (wI W wt) we],res:=fun _ _=>.ok (.ret .none),
    post:=fun J θ=>[ro (oI (orI W (θ 0)) (fun j=>θ (j+1))) (θ 7),keyO lamK (J 3) (J 2) ct,codO v0 q tq rest,cellO (.ref (J 4)),ro (wI W wt) we],new:=fun _ _=>[] }
theorem key_word:(Str.ofString "key")=sKey:=by decide +kernel
theorem in1_small {A:Around}{d d':Nat}(h:Small A d)(hd:d+6≤d'):Small A.in1 d':=by
  refine ⟨h.1,?_,?_⟩
  · have:=h.2.1
    unfold Around.in1
    simp [Around.under]
    omega
  · have:=h.2.2
    show A.units+1≤_
    omega
theorem ok_sortK {w:World}{v0:Value}{q:Str}{tq:Nat}{rest:List Value}{ct:Nat}{W wt:Nat→Nat}{we:Nat}{it:Nat→Nat}{e:Nat}:(X_sortK v0 q tq rest ct W wt we it e).Ok w:=by
  refine ok_of_con fun J=>?_
  refine con_builtin (b:=Builtin.«list.sort») (by decide +kernel) (entryFor_of_tree (by kernel_rfl)) fun A s R sA hg hpre hnd hout hR=>?_
  have hpre:Has s.heap [J 0,J 1,J 2,J 3,J 4] [ro (oI (fun j=>j) it) e,keyO lamK (J 3) (J 2) ct,codO v0 q tq rest,cellO (.ref (J 4)),ro (wI W wt) we]:=hpre
  have hnd:[J 0,J 1,J 2,J 3,J 4].Nodup:=hnd
  have hout:∀ a∈[J 0,J 1,J 2,J 3,J 4],gl w.params a=none∧183≤a:=hout
  obtain ⟨h0,hq⟩:=has_cons.mp hpre
  have ho:s.heap.get? (J 0)=some (seqObj "list" (ivs (oI (fun j=>j) it)).toArray e):=h0
  obtain ⟨nd0,nd1⟩:=List.nodup_cons.mp hnd
  show wpAny (model prg w) A.in1 (Builtin.«list.sort» ⟨[.ref (J 0)],[(sKey,.ref (J 1))]⟩) _ _ s
  rw [← key_word,ksk_t1]
  refine wpAny_mono (wpAny_grow (sort_key (P:=fun fin s'=>fin=.done (.ret .none)∧∃ out c,Like s s'∧s'.heap.get? (J 0)=some (seqObj "list" out c)∧(∀ b o,b≠J 0→s.heap.get? b=some o→s'.heap.get? b=some o)∧KskOut false [-((W 0:Nat):Int),-((W 1:Nat):Int),-((W 2:Nat):Int),-((W 3:Nat):Int),-((W 4:Nat):Int),-((W 5:Nat):Int)] (ivs (oI (fun j=>j) it)) out.toList) (E:=fun _ _=>False) ho rfl (show 2≤6 by decide) (show 6<64 by decide) (fun i v k hv hk s' kp=>?_) (fun s' out c lk g1 g2 ko=>⟨rfl,out,c,lk,g1,g2,ko⟩))) ?_ ?_
  · have hi:i<6:=(List.getElem?_eq_some_iff.mp hv).1
    have ev:∃ t,v=.int (i:Nat) t∧k = -((W i:Nat):Int):=by
      match i,hi with
      | 0,_=>exact ⟨it 0,(Option.some.inj hv).symm,(Option.some.inj hk).symm⟩
      | 1,_=>exact ⟨it 1,(Option.some.inj hv).symm,(Option.some.inj hk).symm⟩
      | 2,_=>exact ⟨it 2,(Option.some.inj hv).symm,(Option.some.inj hk).symm⟩
      | 3,_=>exact ⟨it 3,(Option.some.inj hv).symm,(Option.some.inj hk).symm⟩
      | 4,_=>exact ⟨it 4,(Option.some.inj hv).symm,(Option.some.inj hk).symm⟩
      | 5,_=>exact ⟨it 5,(Option.some.inj hv).symm,(Option.some.inj hk).symm⟩
    obtain ⟨t,rfl,rfl⟩:=ev
    have gl':∀ a o,gl w.params a=some o→s'.heap.get? a=some o:=fun a o q=>kp a o (fun z=>by
      have:=(hout (J 0) mS).1
      rw [← z,q] at this;cases this) (hg a o q)
    have H':Has s'.heap [J 1,J 2,J 3,J 4] [keyO lamK (J 3) (J 2) ct,codO v0 q tq rest,cellO (.ref (J 4)),ro (wI W wt) we]:=has_keep hq fun b o hb q=>kp b o (fun z=>nd0 (z▸hb)) q
    refine wpAny_call (codeAny_mono (ok_key w (v0:=v0) (q:=q) (tq:=tq) (rest:=rest) (ct:=ct) (W:=W) (wt:=wt) (we:=we) (tk:=t) hi (fun j=>J (j+1)) A.in1 s' (in1_small sA (show 500+6≤520 by decide)) gl' H' nd1 (fun a ha=>hout a (mO ha))) ?_)
    rintro r s2 ⟨μ,θ,E1⟩
    have res1:r=.ok (.ret (.int (-((W i:Nat):Int)) (θ 0))):=E1.res
    subst res1
    have ag:∀ j,j<4→μ j=J (j+1):=fun j hj=>E1.agree j hj
    have post1:Has s2.heap [J 1,J 2,J 3,J 4] [keyO lamK (μ 2) (μ 1) ct,codO v0 q tq rest,cellO (.ref (μ 3)),ro (wI W wt) we]:=E1.post
    rw [ag 1 (by decide),ag 2 (by decide),ag 3 (by decide)] at post1
    have F:After (gl w.params) [J 1,J 2,J 3,J 4] s' s2:=E1.after
    refine ⟨⟨_,rfl⟩,fun b o q=>?_,⟨F.gens,F.drawn,F.os⟩⟩
    by_cases hb:b∈[J 1,J 2,J 3,J 4]
    · rw [← has_same H' post1 b hb];exact q
    · exact F.keep b o q hb
  · rintro fin s' ⟨⟨rfl,out,c,lk,g1,g2,ps,hp,eo,pw⟩,gr⟩
    have hl:ps.length=6:=hp.length_eq
    have hsub:∀ p∈ps,∃ i t,i<6∧p=(-((W i:Nat):Int),Value.int (i:Nat) t):=fun p hp'=>by
      have hm:p∈[(-((W 0:Nat):Int),Value.int ((0:Nat):Int) (it 0)),(-((W 1:Nat):Int),Value.int ((1:Nat):Int) (it 1)),(-((W 2:Nat):Int),Value.int ((2:Nat):Int) (it 2)),(-((W 3:Nat):Int),Value.int ((3:Nat):Int) (it 3)),(-((W 4:Nat):Int),Value.int ((4:Nat):Int) (it 4)),(-((W 5:Nat):Int),Value.int ((5:Nat):Int) (it 5))]:=hp.mem_iff.mp hp'
      simp only [List.mem_cons,List.not_mem_nil,or_false] at hm
      rcases hm with h | h | h | h | h | h
      · exact ⟨0,_,by decide,h⟩
      · exact ⟨1,_,by decide,h⟩
      · exact ⟨2,_,by decide,h⟩
      · exact ⟨3,_,by decide,h⟩
      · exact ⟨4,_,by decide,h⟩
      · exact ⟨5,_,by decide,h⟩
    let g:Int×Value→Nat:=fun p=>match p.2 with
      | .int n _=>n.toNat
      | _=>0
    have hperm:(ps.map g).Perm six0:=(hp.map g).trans (List.Perm.of_eq rfl)
    have hfall:Falls W (ps.map g):=by
      refine ⟨hperm,?_⟩
      rw [List.pairwise_map]
      refine pw.imp_of_mem fun {a b} ha hb h=>?_
      obtain ⟨i,t,hi,rfl⟩:=hsub a ha
      obtain ⟨j,u,hj,rfl⟩:=hsub b hb
      have h : -((W i:Nat):Int) ≤ -((W j:Nat):Int):=by simpa using h
      show W (((j:Nat):Int).toNat)≤W (((i:Nat):Int).toNat)
      rw [Int.toNat_natCast,Int.toNat_natCast]
      omega
    obtain ⟨n,hn⟩:=ord_hit hfall
    let ht:Int×Value→Nat:=fun p=>match p.2 with
      | .int _ t=>t
      | _=>0
    have hout2:out.toList=ivs (oI (orI W n) (fun j=>(ps.map ht).getD j 0)):=by
      obtain ⟨p0,p1,p2,p3,p4,p5,e6⟩:=list6 hl
      rw [eo]
      unfold orI
      rw [hn,e6]
      have v:∀ p∈ps,p.2=.int ((g p:Nat):Int) (ht p):=fun p hp'=>by
        obtain ⟨i,t,hi,rfl⟩:=hsub p hp'
        show Value.int _ _=Value.int ((((i:Nat):Int).toNat:Nat):Int) _
        rw [Int.toNat_natCast]
      have m:∀ p,p∈[p0,p1,p2,p3,p4,p5]→p∈ps:=fun p hp'=>e6▸hp'
      show [p0.2,p1.2,p2.2,p3.2,p4.2,p5.2]=[.int ((g p0:Nat):Int) (ht p0),.int ((g p1:Nat):Int) (ht p1),.int ((g p2:Nat):Int) (ht p2),.int ((g p3:Nat):Int) (ht p3),.int ((g p4:Nat):Int) (ht p4),.int ((g p5:Nat):Int) (ht p5)]
      rw [← v p0 (m _ (by simp)),← v p1 (m _ (by simp)),← v p2 (m _ (by simp)),← v p3 (m _ (by simp)),← v p4 (m _ (by simp)),← v p5 (m _ (by simp))]
    obtain ⟨t0,t1,t2,t3,t4,t5,et⟩:=list6 (l:=ps.map ht) (by rw [List.length_map,hl])
    rw [et] at hout2
    have g1':s'.heap.get? (J 0)=some (ro (oI (orI W n) (fun j=>[t0,t1,t2,t3,t4,t5].getD j 0)) c):=by
      rw [g1]
      show some (seqObj "list" out c)=some (lst _ c)
      unfold lst
      rw [← hout2,Array.toArray_toList]
    refine hR _ _ ⟨[ro (oI (orI W n) (fun j=>[t0,t1,t2,t3,t4,t5].getD j 0)) c,keyO lamK (J 3) (J 2) ct,codO v0 q tq rest,cellO (.ref (J 4)),ro (wI W wt) we],[],⟨[n,t0,t1,t2,t3,t4,t5,c],rfl,rfl,rfl,?_,rfl⟩,?_,(fun _ h=>by cases h),List.nodup_nil,?_⟩
    · rfl
    · exact has_cons.mpr ⟨g1',has_keep hq fun b o hb q=>g2 b o (fun z=>nd0 (z▸hb)) q⟩
    · have es:s'={ s with heap:=s'.heap,toks:=s'.toks }:=by
        obtain ⟨a1,a2,a3⟩:=lk
        cases s'
        cases s
        dsimp only at a1 a2 a3 ⊢
        rw [a1,a2,a3]
      rw [es]
      rw [es] at gr
      exact after_of hg (fun a ha=>(hout a ha).1) (fun b o hb e=>g2 b o (fun z=>hb (by rw [z];exact List.mem_cons_self ..)) e) gr
  · rintro e s' ⟨z,_⟩
    exact z.elim
end
section
open PySem PySem.W PySem.W.X PySem.Spec PySem.Calls
noncomputable def tbl (vs:List Value):Obj:={ cls:=.none,data:=.fields vs.toArray }
noncomputable def tupT (vs:List Value):Obj:={ cls:=.type "tuple",data:=.seq vs.toArray 0 }
noncomputable abbrev sFile:Str:=⟨#[47,99,108,97,105,109,47,99,117,116,46,112,121]⟩
noncomputable abbrev sKk:Str:=⟨#[107]⟩
noncomputable def tmpO (q:Str)(p:LamP):Obj:={ cls:=.none,data:=.func { name:=sLambda,qualname:=q,params:=p.1,body:=p.2.1,scope:=p.2.2,globals:=0,closure:=[],defaults:=.none,kwdefaults:=.none } }
noncomputable def codR (line col tf fr tb lo emp tm x tl:Nat):List Value :=
  [.str sFile tf,.int line 0,.int 1 0,.int 0 0,.int 0 0,.int 19 0,.ref fr,.bool true,.int 276 0,.ref tb,.none,.ref lo,.ref emp,.ref tm,.int x 0,.int line 0,.str sFile tl]
noncomputable def bw:Nat→Nat
  | 0=>6
  | 1=>4
  | 2=>8
  | 3=>9
  | 4=>5
  | _=>7
noncomputable def sm (l:List Iv):Int:=(l.map (·.1)).sum
structure WOk (v:List Iv)(f:Nat→List Iv)(W:Nat→Nat):Prop where
  len:v.length≤63
  sl:∀ k,k<6→(slicePick (ivs v).toArray (some (k:Nat)) (some 63) (some 6)).toList=ivs (f k)
  w:∀ k,k<6→1+((bw k:Nat)+sm (f k))%30=((W k:Nat):Int)
end
section
open PySem PySem.W PySem.W.X PySem.Spec PySem.Calls
set_option maxHeartbeats 0
noncomputable def X_wts (Pw:Params)(v:List Iv)(sl:Nat→List Iv)(W:Nat→Nat)(fr:Nat):Spec:={ n0:=5,k:=0,nt:=8,d:=400,code:=fun J=>.compLoop lwC1 0 (.ref (J 1)) (.ref (J 2)) (cEnv (lwF fr) lwC1 (J 0) [(sScript,J 3)]),pre:=fun J=>[dic [] 0,riO (.int 0 0) (.int 6 0) (.int 1 0),lst [] 0,cellO (.ref (J 4)),ro v 0],res:=fun J Z=>.ok .next,post:=fun J Z=>[dic [⟨hsh Pw sKk,.str sKk (Z 6),.int 5 (Z 7)⟩] 1,riO (.int 6 0) (.int 0 0) (.int 1 0),ro (wI W (fun j=>Z j)) 6,cellO (.ref (J 4)),ro v 0],new:=fun J Z=>[] }
noncomputable def wts_hs (b1 b2:Bool):List Nat:=[2,2,2,2,2,2,2,2,2,1,1,1,6,6,6,6,6,0,0,4,1,5,5,5,5,3,3,3,3,2,2,2,2,2,2,2,2,2,1,1,1,9,9,9,9,9,0,0,4,1,5,5,5,5,3,3,3,3,2,2,2,2,2,2,2,2,2,1,1,1,12,12,12,12,12,0,0,4,1,5,5,5,5,3,3,3,3,2,2,2,2,2,2,2,2,2,1,1,1,15,15,15,15,15,0,0,4,1,5,5,5,5,3,3,3,3,2,2,2,2,2,2,2,2,2,1,1,1,18,18,18,18,18,0,0,4,1,5,5,5,5,3,3,3,3,2,2,2,2,2,2,2,2,2,1,1,1,21,21,21,21,21,0,0,4,1,5,5,5,5,3,3,3,3,2,2,2,2,2,25]
noncomputable def wts_cs (Pw:Params)(v:List Iv)(sl:Nat→List Iv)(W:Nat→Nat)(fr:Nat)(b1 b2:Bool):List Ev:=[evX (fun J Z=>X_sl3 v 0 0 63 6 (Z 0) (Z 9) (Z 10) (sl 0)) [4,6] 6 7 11,evX (fun J Z=>X_sum (sl 0) 0) [7] 1 8 11,evX (fun J Z=>X_iadd2 6 (Z 3) (sm (sl 0)) (Z 11) (6+sm (sl 0))) [] 1 8 12,evX (fun J Z=>X_imod (6+sm (sl 0)) (Z 12) 30 (Z 13) ((6+sm (sl 0))%30)) [] 1 8 14,evX (fun J Z=>X_iadd2 1 (Z 2) ((6+sm (sl 0))%30) (Z 14) ((W 0:Nat):Int)) [] 1 8 15,evX (fun J Z=>X_sl3 v 0 1 63 6 (Z 16) (Z 25) (Z 26) (sl 1)) [4,9] 9 10 27,evX (fun J Z=>X_sum (sl 1) 0) [10] 1 11 27,evX (fun J Z=>X_iadd2 4 (Z 20) (sm (sl 1)) (Z 27) (4+sm (sl 1))) [] 1 11 28,evX (fun J Z=>X_imod (4+sm (sl 1)) (Z 28) 30 (Z 29) ((4+sm (sl 1))%30)) [] 1 11 30,evX (fun J Z=>X_iadd2 1 (Z 18) ((4+sm (sl 1))%30) (Z 30) ((W 1:Nat):Int)) [] 1 11 31,evX (fun J Z=>X_sl3 v 0 2 63 6 (Z 32) (Z 41) (Z 42) (sl 2)) [4,12] 9 13 43,evX (fun J Z=>X_sum (sl 2) 0) [13] 1 14 43,evX (fun J Z=>X_iadd2 8 (Z 37) (sm (sl 2)) (Z 43) (8+sm (sl 2))) [] 1 14 44,evX (fun J Z=>X_imod (8+sm (sl 2)) (Z 44) 30 (Z 45) ((8+sm (sl 2))%30)) [] 1 14 46,evX (fun J Z=>X_iadd2 1 (Z 34) ((8+sm (sl 2))%30) (Z 46) ((W 2:Nat):Int)) [] 1 14 47,evX (fun J Z=>X_sl3 v 0 3 63 6 (Z 48) (Z 57) (Z 58) (sl 3)) [4,15] 9 16 59,evX (fun J Z=>X_sum (sl 3) 0) [16] 1 17 59,evX (fun J Z=>X_iadd2 9 (Z 54) (sm (sl 3)) (Z 59) (9+sm (sl 3))) [] 1 17 60,evX (fun J Z=>X_imod (9+sm (sl 3)) (Z 60) 30 (Z 61) ((9+sm (sl 3))%30)) [] 1 17 62,evX (fun J Z=>X_iadd2 1 (Z 50) ((9+sm (sl 3))%30) (Z 62) ((W 3:Nat):Int)) [] 1 17 63,evX (fun J Z=>X_sl3 v 0 4 63 6 (Z 64) (Z 73) (Z 74) (sl 4)) [4,18] 9 19 75,evX (fun J Z=>X_sum (sl 4) 0) [19] 1 20 75,evX (fun J Z=>X_iadd2 5 (Z 71) (sm (sl 4)) (Z 75) (5+sm (sl 4))) [] 1 20 76,evX (fun J Z=>X_imod (5+sm (sl 4)) (Z 76) 30 (Z 77) ((5+sm (sl 4))%30)) [] 1 20 78,evX (fun J Z=>X_iadd2 1 (Z 66) ((5+sm (sl 4))%30) (Z 78) ((W 4:Nat):Int)) [] 1 20 79,evX (fun J Z=>X_sl3 v 0 5 63 6 (Z 80) (Z 89) (Z 90) (sl 5)) [4,21] 9 22 91,evX (fun J Z=>X_sum (sl 5) 0) [22] 1 23 91,evX (fun J Z=>X_iadd2 7 (Z 88) (sm (sl 5)) (Z 91) (7+sm (sl 5))) [] 1 23 92,evX (fun J Z=>X_imod (7+sm (sl 5)) (Z 92) 30 (Z 93) ((7+sm (sl 5))%30)) [] 1 23 94,evX (fun J Z=>X_iadd2 1 (Z 82) ((7+sm (sl 5))%30) (Z 94) ((W 5:Nat):Int)) [] 1 23 95]
theorem run_wts (v:List Iv)(sl:Nat→List Iv)(W:Nat→Nat)(fr:Nat)(Pw:Params):∀ (b1 b2:Bool) (J Z:Nu),RD (X_wts Pw v sl W fr) Pw b1 b2 518 (wts_hs b1 b2) (wts_cs Pw v sl W fr b1 b2) [] [15,31,47,63,79,95,1,80] J Z
  | true,b2,J,Z=>by kernel_rfl
  | false,b2,J,Z=>by kernel_rfl
theorem ok_wts (w:World){v:List Iv}{sl:Nat→List Iv}{W:Nat→Nat}{fr:Nat}(h:WOk v sl W):(X_wts w.params v sl W fr).Ok w :=
  ok_of_run (hs:=wts_hs (row1 w) (row2 w)) (cs:=wts_cs w.params v sl W fr (row1 w) (row2 w)) (ns:=[]) (ts:=[15,31,47,63,79,95,1,80]) (vc (fun J Z=>ok_sl3 (by decide) (by have:=h.len;have:=sizeLine_eq;omega) (h.sl 0 (by decide))) rfl (vc (fun J Z=>ok_sum) rfl (vc (fun J Z=>ok_iadd2 rfl) rfl (vc (fun J Z=>ok_imod (by decide) rfl) rfl (vc (fun J Z=>ok_iadd2 (h.w 0 (by decide))) rfl (vc (fun J Z=>ok_sl3 (by decide) (by have:=h.len;have:=sizeLine_eq;omega) (h.sl 1 (by decide))) rfl (vc (fun J Z=>ok_sum) rfl (vc (fun J Z=>ok_iadd2 rfl) rfl (vc (fun J Z=>ok_imod (by decide) rfl) rfl (vc (fun J Z=>ok_iadd2 (h.w 1 (by decide))) rfl (vc (fun J Z=>ok_sl3 (by decide) (by have:=h.len;have:=sizeLine_eq;omega) (h.sl 2 (by decide))) rfl (vc (fun J Z=>ok_sum) rfl (vc (fun J Z=>ok_iadd2 rfl) rfl (vc (fun J Z=>ok_imod (by decide) rfl) rfl (vc (fun J Z=>ok_iadd2 (h.w 2 (by decide))) rfl (vc (fun J Z=>ok_sl3 (by decide) (by have:=h.len;have:=sizeLine_eq;omega) (h.sl 3 (by decide))) rfl (vc (fun J Z=>ok_sum) rfl (vc (fun J Z=>ok_iadd2 rfl) rfl (vc (fun J Z=>ok_imod (by decide) rfl) rfl (vc (fun J Z=>ok_iadd2 (h.w 3 (by decide))) rfl (vc (fun J Z=>ok_sl3 (by decide) (by have:=h.len;have:=sizeLine_eq;omega) (h.sl 4 (by decide))) rfl (vc (fun J Z=>ok_sum) rfl (vc (fun J Z=>ok_iadd2 rfl) rfl (vc (fun J Z=>ok_imod (by decide) rfl) rfl (vc (fun J Z=>ok_iadd2 (h.w 4 (by decide))) rfl (vc (fun J Z=>ok_sl3 (by decide) (by have:=h.len;have:=sizeLine_eq;omega) (h.sl 5 (by decide))) rfl (vc (fun J Z=>ok_sum) rfl (vc (fun J Z=>ok_iadd2 rfl) rfl (vc (fun J Z=>ok_imod (by decide) rfl) rfl (vc (fun J Z=>ok_iadd2 (h.w 5 (by decide))) rfl (va_nil))))))))))))))))))))))))))))))) rfl rfl (by decide) (show ∀ j∈([]:List Nat),5≤j by decide) (run_wts v sl W fr w.params (row1 w) (row2 w))
end
section
open PySem PySem.W PySem.W.X PySem.Spec PySem.Calls
set_option maxHeartbeats 1000000
theorem wp_runG {w:World}{X:Spec}{U:Nu→Nu}{t:Nu→Sem Fin}{fuel:Nat}{hs:List Nat}{cs:List Ev}{ns ts:List Nat}(V:ValidAll prg w (gl w.params) cs)(hk:ns.length=X.k)(ht:ts.length=X.nt)(hn:ns.Nodup)(hge:∀ j∈ns,X.n0≤j)
    (run:∀ J Z,runL X t w.params (row1 w) (row2 w) fuel hs cs ns (U J) Z=runR X t w.params (row1 w) (row2 w) fuel hs cs ns ts (U J) Z)
    {J:Nu} {A:Around} {s:Shared} (hU:∀ J':Nu,(∀ j,183≤J' j)→(∀ j,j<X.n0→J' j=J j)→∃ ρ,U ρ=J') (sA:Small A X.d) (hg:∀ a o,gl w.params a=some o→s.heap.get? a=some o) (hp:Has s.heap (rng X.n0 J) (X.pre (trunc X.n0 J))) (hnd:(rng X.n0 J).Nodup)
    (hout:∀ a∈rng X.n0 J,gl w.params a=none∧183≤a) {R:Result→Shared→Prop} (hR:∀ r s',(∃ μ θ,Ends w X J s r s' μ θ)→R r s') :
    wpOwn (model prg w) A (X.code (trunc X.n0 J)) (t (trunc X.n0 J)) (postC prg w A R) (postE R) s:=by
  refine wp_of_sim (as:=rng X.n0 J) (n:=fuel) (hs:=hs) (cs:=cs) (rows_eq w.params) (Post:=fun r os nw=>∃ μ θ:Nu,Agree X.n0 μ J∧(∀ j,X.n0+X.k≤j→μ j=0)∧(∀ j,X.nt≤j→θ j=0)∧r=X.res μ θ∧os=X.post μ θ∧(X.new μ θ).length=X.k∧nw=((List.range X.k).map fun j=>μ (X.n0+j)).zip (X.new μ θ)) V ?_ sA hg hp hnd hout ?_
  · intro J' Z' hlo hJ
    have hag:Agree X.n0 J' J:=fun j hj=>by
      rw [hJ j (by rw [rng_len];exact hj)]
      unfold nuOf
      rw [List.getD_eq_getElem?_getD,show (rng X.n0 J)[j]?=some (J j) from by unfold rng;rw [List.getElem?_map,List.getElem?_range hj];rfl];rfl
    obtain ⟨ρ,hρ⟩:=hU J' hlo hag
    have run:=fun Z=>run ρ Z
    rw [hρ] at run
    have htr:trunc X.n0 J=trunc X.n0 J':=trunc_eq hag.symm
    rw [rng_len,htr]
    refine good_of (run Z') fun r T m i h=>?_
    obtain ⟨h1,h23⟩:=Prod.mk.inj h
    obtain ⟨h2,h3⟩:=Prod.mk.inj h23
    have hlen:(X.new (both X.n0 J' (sel ns J')) (sel ts Z')).length=X.k:=by
      have:=congrArg List.length h3
      rw [List.length_map,List.length_map] at this
      omega
    refine ⟨X.post (both X.n0 J' (sel ns J')) (sel ts Z'),ns,X.new (both X.n0 J' (sel ns J')) (sel ts Z'),⟨both X.n0 J' (sel ns J'),sel ts Z',fun j hj=>(both_lt hj).trans (hag j hj),fun j hj=>?_,fun j hj=>sel_ge (by omega),h1,rfl,hlen,?_⟩,h2,h3,hn,hge⟩
    · rw [both_ge (by omega),sel_ge (by omega)]
    · congr 1
      refine List.ext_getElem? fun j=>?_
      rw [List.getElem?_map,List.getElem?_map]
      by_cases hj:j<X.k
      · rw [List.getElem?_range hj,List.getElem?_eq_getElem (by omega),Option.map_some,Option.map_some,both_ge (by omega),Nat.add_sub_cancel_left,sel_lt (by omega)]
      · rw [List.getElem?_eq_none (by omega),List.getElem?_eq_none (by rw [List.length_range];omega)];rfl
  · rintro r s' ⟨os,nw,⟨μ,θ,a1,a2,a3,a4,a5,a6,a7⟩,b1,b2,b3,b4⟩
    have hl1:((List.range X.k).map fun j=>μ (X.n0+j)).length=X.k:=by rw [List.length_map,List.length_range]
    have m1:nw.map (·.1)=(List.range X.k).map fun j=>μ (X.n0+j):=by rw [a7,List.map_fst_zip (by omega)]
    have at1:∀ j,j<X.k→∃ o,nw[j]?=some (μ (X.n0+j),o)∧(X.new μ θ)[j]?=some o:=fun j hj=>by
      refine ⟨(X.new μ θ)[j]'(by omega),?_,List.getElem?_eq_getElem _⟩
      rw [a7,List.getElem?_zip_eq_some]
      exact ⟨by rw [List.getElem?_map,List.getElem?_range hj];rfl,List.getElem?_eq_getElem _⟩
    refine hR r s' ⟨μ,θ,a1,a2,a3,a4,a5▸b1,?_,fun j hj=>?_,fun j j' hj hj' e=>?_,b4⟩
    · show List.map _ _=List.map _ _
      refine List.ext_getElem? fun j=>?_
      by_cases hj:j<X.k
      · obtain ⟨o,h1,h2⟩:=at1 j hj
        rw [List.getElem?_map,List.getElem?_map,List.getElem?_map,List.getElem?_range hj,h2]
        exact congrArg some (b2 _ (List.mem_of_getElem? h1)).1
      · rw [List.getElem?_eq_none (by rw [List.length_map];omega),List.getElem?_eq_none (by rw [List.length_map];omega)]
    · obtain ⟨o,h1,h2⟩:=at1 j hj
      exact (b2 _ (List.mem_of_getElem? h1)).2
    · rw [m1] at b3
      have g:∀ x,(hx:x<X.k)→((List.range X.k).map fun j=>μ (X.n0+j))[x]'(by omega)=μ (X.n0+x):=fun x hx=>by
        rw [List.getElem_map,List.getElem_range]
      exact nodup_inj (hi:=by omega) (hj:=by omega) b3 (by rw [g j hj,g j' hj'];exact e)
theorem ok_of_runG {w:World}{X:Spec}{U:Nu→Nu}{fuel:Nat}{hs:List Nat}{cs:List Ev}{ns ts:List Nat}(V:ValidAll prg w (gl w.params) cs)(hk:ns.length=X.k)(ht:ts.length=X.nt)(hn:ns.Nodup)(hge:∀ j∈ns,X.n0≤j)
    (hU:∀ (J:Nu) (s:Shared),Has s.heap (rng X.n0 J) (X.pre (trunc X.n0 J))→∀ J':Nu,(∀ j,183≤J' j)→(∀ j,j<X.n0→J' j=J j)→∃ ρ,U ρ=J')
    (run:∀ J Z,runL X (fun J=>den (X.code J)) w.params (row1 w) (row2 w) fuel hs cs ns (U J) Z=runR X (fun J=>den (X.code J)) w.params (row1 w) (row2 w) fuel hs cs ns ts (U J) Z):X.Ok w:=by
  intro J A s sA hg hp hnd hout
  refine y_code _ _ _ _ _ _ ?_
  rw [den_eq]
  exact wp_runG (t:=fun J=>den (X.code J)) V hk ht hn hge run (hU J s hp) sA hg hp hnd hout fun _ _ x=>x
theorem st_of_runG {w:World}{X:Spec}{U:Nu→Nu}{sts:List Stmt}{env:Nu→Env}{fuel:Nat}{hs:List Nat}{cs:List Ev}{ns ts:List Nat}(V:ValidAll prg w (gl w.params) cs)(hk:ns.length=X.k)(ht:ts.length=X.nt)(hn:ns.Nodup)(hge:∀ j∈ns,X.n0≤j)
    (hU:∀ (J:Nu) (s:Shared),Has s.heap (rng X.n0 J) (X.pre (trunc X.n0 J))→∀ J':Nu,(∀ j,183≤J' j)→(∀ j,j<X.n0→J' j=J j)→∃ ρ,U ρ=J')
    (run:∀ J Z,runL X (fun J=>stD sts (env J)) w.params (row1 w) (row2 w) fuel hs cs ns (U J) Z=runR X (fun J=>stD sts (env J)) w.params (row1 w) (row2 w) fuel hs cs ns ts (U J) Z)
    (he:∀ J,env (trunc X.n0 J)=env J) (hf:∀ μ θ,∃ f,X.res μ θ=.ok f):StOk w X sts env:=by
  intro J A s sA hg hp hnd hout
  refine at_of_ownF ?_
  have key:=wp_runG (w:=w) (X:=X) (U:=U) (t:=fun J=>stD sts (env J)) (fuel:=fuel) (hs:=hs) (cs:=cs) (ns:=ns) (ts:=ts) V hk ht hn hge run (hU J s hp) (J:=J) (A:={ A with frames:=none,guards:=none }) (s:=s) sA hg hp hnd hout
    (R:=fun r s'=>match r with | .ok v=>∃ μ θ,Ends w X J s (.ok v) s' μ θ | .error e=>False) (fun r s' h=>by
      obtain ⟨μ,θ,E⟩:=h
      obtain ⟨f,e⟩:=hf μ θ
      have e2:=E.res
      rw [e] at e2
      subst e2
      exact ⟨μ,θ,E⟩)
  rw [he,← st_eq] at key
  exact key
noncomputable def gone:Obj:={ cls:=.none,data:=.freed }
theorem gone_freed:gone.isFreed=true:=by rfl
theorem has_gone {h:Heap}{a:Addr}(e:h.get? a=some gone):False:=by
  have:=(Heap.get?_some_iff.mp e).2
  rw [gone_freed] at this
  cases this
noncomputable def tbF (n a:Nat)(vs:List Value):Obj:=match Nat.beq a n with
  | true=>tbl vs
  | false=>gone
theorem tbF_at {h:Heap}{n a:Nat}{vs:List Value}(e:h.get? a=some (tbF n a vs)):a=n:=by
  unfold tbF at e
  cases q:Nat.beq a n with
  | true=>exact Nat.eq_of_beq_eq_true q
  | false=>rw [q] at e;exact (has_gone e).elim
noncomputable def upF (ρ:Nu):Nu:=fun j=>match j with
  | 0=>183
  | 1=>209
  | j+2=>Nat.add (ρ j) 183
noncomputable def upS (ρ:Nu):Nu:=fun j=>match j with
  | 0=>183
  | j+1=>Nat.add (ρ j) 183
theorem upF_eq {J:Nu}(h:∀ j,183≤J j)(h0:J 0=183)(h1:J 1=209):∃ ρ,upF ρ=J:=⟨fun j=>J (j+2)-183,by
  funext j
  match j with
  | 0=>exact h0.symm
  | 1=>exact h1.symm
  | j+2=>exact Nat.sub_add_cancel (h (j+2))⟩
theorem upS_eq {J:Nu}(h:∀ j,183≤J j)(h0:J 0=183):∃ ρ,upS ρ=J:=⟨fun j=>J (j+1)-183,by
  funext j
  match j with
  | 0=>exact h0.symm
  | j+1=>exact Nat.sub_add_cancel (h (j+1))⟩
theorem pre_at {X:Spec}{s:Shared}{J:Nu}(hp:Has s.heap (rng X.n0 J) (X.pre (trunc X.n0 J))){j:Nat}(hj:j<X.n0){n:Nat}{v:Nu→List Value}(p:∀ J,(X.pre J)[j]?=some (tbF n (J j) (v J))):J j=n:=by
  obtain ⟨o,h1,h2⟩:=hp.at (j:=j) (a:=J j) (by unfold rng;rw [List.getElem?_map,List.getElem?_range hj];rfl)
  rw [p] at h1
  cases h1
  rw [trunc_lt J hj] at h2
  exact tbF_at h2
theorem hU_F {X:Spec}{v0 v1:Nu→List Value}(h0:2≤X.n0)(p0:∀ J,(X.pre J)[0]?=some (tbF 183 (J 0) (v0 J)))(p1:∀ J,(X.pre J)[1]?=some (tbF 209 (J 1) (v1 J))) :
    ∀ (J:Nu) (s:Shared),Has s.heap (rng X.n0 J) (X.pre (trunc X.n0 J))→∀ J':Nu,(∀ j,183≤J' j)→(∀ j,j<X.n0→J' j=J j)→∃ ρ,upF ρ=J':=fun J s hp J' h1 h2 =>
  upF_eq h1 ((h2 0 (by omega)).trans (pre_at hp (by omega) p0)) ((h2 1 (by omega)).trans (pre_at hp (by omega) p1))
theorem hU_S {X:Spec}{v0:Nu→List Value}(h0:1≤X.n0)(p0:∀ J,(X.pre J)[0]?=some (tbF 183 (J 0) (v0 J))) :
    ∀ (J:Nu) (s:Shared),Has s.heap (rng X.n0 J) (X.pre (trunc X.n0 J))→∀ J':Nu,(∀ j,183≤J' j)→(∀ j,j<X.n0→J' j=J j)→∃ ρ,upS ρ=J':=fun J s hp J' h1 h2 =>
  upS_eq h1 ((h2 0 (by omega)).trans (pre_at hp (by omega) p0))
noncomputable def restI (a b:Addr):Sem Fin:=pyIter (.ref b) >>= fun iter=>holding [iter] (Builtin.List.listLengthHint (.ref b)) >>= fun room =>
  if room=true then (rule "list.extend.makes-room" >>= fun _=>Builtin.List.listTouch (.ref a) >>= fun _=>again (.builtin "list.extend.loop" ⟨[.ref a,iter,.ref a],[]⟩))
  else again (.builtin "list.extend.loop" ⟨[.ref a,iter,.ref a],[]⟩)
noncomputable def restID (a b:Addr):Sem Fin:=PySem.W.R.bindR (PySem.W.ZFast.zw8711993805878244202 (.ref b)) fun iter=>PySem.W.R.bindR (PySem.W.ZFast.zw17359229931016689406 [iter] (PySem.W.ZFast.zw15112759502256325868 (.ref b))) fun room=>match room with
  | true=>PySem.W.R.bindR (rule "list.extend.makes-room") fun _=>PySem.W.R.bindR (PySem.W.ZFast.zw922294955767894045 (.ref a)) fun _=>.pure (.again (.builtin "list.extend.loop" ⟨[.ref a,iter,.ref a],[]⟩))
  | false=>.pure (.again (.builtin "list.extend.loop" ⟨[.ref a,iter,.ref a],[]⟩))
theorem restI_eq (a b:Addr):restI a b=restID a b:=by
  unfold restI restID
  rw [← PySem.W.ZFast.ze8711993805878244202,← PySem.W.ZFast.ze17359229931016689406,← PySem.W.ZFast.ze15112759502256325868,← PySem.W.ZFast.ze922294955767894045]
  simp only [← PySem.W.R.bindR_eq]
  show Sem.bind _ _=Sem.bind _ _
  congr 1
  funext iter
  show Sem.bind _ _=Sem.bind _ _
  congr 1
  funext room
  cases room<;>rfl
theorem iadd_rest {M:Model}{Γ:PySem.Ctx}{a b:Addr}{o:Obj}{Q:Fin→Pos→Shared→Prop}{E:Value→Pos→Shared→Prop}{p:Pos}{s:Shared}(hne:a≠b)(ho:s.heap.get? b=some o)(hc:o.cls=.type "range")
    (h:Sem.wp M Γ (restI a b) Q E p s):Sem.wp M Γ (Builtin.«list.__iadd__» ⟨[.ref a,.ref b],[]⟩) Q E p s:=by
  show Sem.wp M Γ (Builtin.List.listExtendWith (.ref a) (.ref b) (.ref a)) Q E p s
  unfold Builtin.List.listExtendWith
  rw [Sem.wp_bind']
  show Sem.wp M Γ (Sem.bind (Sem.load b _ .pure) fun o=>Sem.pure o.cls) _ _ _ _
  rw [show Sem.bind (Sem.load b _ .pure) (fun o=>Sem.pure o.cls)=(Sem.load b _ .pure >>= fun o=>Sem.pure o.cls:Sem Value) from rfl,Sem.wp_bind',Sem.wp_load]
  refine ⟨o,ho,?_⟩
  rw [Sem.wp,Sem.wp,hc]
  have hs:Builtin.List.listSameRef (.ref a) (.ref b)=false:=by
    show (a==b)=false
    simpa using hne
  dsimp only
  rw [hs,if_neg (by decide)]
  unfold restI at h
  rw [Sem.wp_bind'] at h ⊢
  refine Sem.wp_mono M Γ _ (fun iter p1 s1 h1=>?_) (fun _ _ _ z=>z) _ _ h
  rw [Sem.wp_bind'] at h1 ⊢
  refine Sem.wp_mono M Γ _ (fun room p2 s2 h2=>?_) (fun _ _ _ z=>z) _ _ h1
  cases room with
  | true =>
    rw [if_pos rfl] at h2
    rw [if_pos (by rfl)]
    exact h2
  | false =>
    rw [if_neg (by decide)] at h2
    rw [if_neg (by decide +kernel)]
    exact h2
theorem den_builtin {id:String}{args:Args}{b:Builtin}(hb:entryFor table id=some b):denote table (.builtin id args)=b args:=by
  show (match entryFor table id with | some b=>b args | none=>unsupported ((withoutEnding? id "#data").getD id))=_
  rw [hb]
theorem ok_of_iadd {w:World}{X:Spec}{cl:List Value→Obj}{fuel:Nat}{hs:List Nat}{cs:List Ev}{ns ts:List Nat}(hn0:X.n0=2)(hcode:∀ J,X.code J=.builtin "list.__iadd__" ⟨[.ref (J 0),.ref (J 1)],[]⟩)(hp1:∀ J,((X.pre J)[1]?).map (·.cls)=some (.type "range"))
    (V:ValidAll prg w (gl w.params) cs) (hk:ns.length=X.k) (ht:ts.length=X.nt) (hn:ns.Nodup) (hge:∀ j∈ns,X.n0≤j)
    (run:∀ J Z,runL X (fun J=>restID (J 0) (J 1)) w.params (row1 w) (row2 w) fuel hs cs ns (up J) Z=runR X (fun J=>restID (J 0) (J 1)) w.params (row1 w) (row2 w) fuel hs cs ns ts (up J) Z):X.Ok w:=by
  intro J A s sA hg hp hnd hout
  refine y_code _ _ _ _ _ _ ?_
  have e0:trunc X.n0 J 0=J 0:=trunc_lt J (by omega)
  have e1:trunc X.n0 J 1=J 1:=trunc_lt J (by omega)
  have key:=wp_run (t:=fun J=>restID (J 0) (J 1)) V hk ht hn hge run sA hg hp hnd hout (R:=fun r s'=>∃ μ θ,Ends w X J s r s' μ θ) fun _ _ x=>x
  rw [hcode,e0,e1] at key ⊢
  rw [← restI_eq] at key
  rw [hn0] at hp hnd
  have hnd:[J 0,J 1].Nodup:=hnd
  have hne:J 0≠J 1:=fun z=>(List.nodup_cons.mp hnd).1 (z▸List.mem_cons_self ..)
  obtain ⟨o,h1,h2⟩:=hp.at (j:=1) (a:=J 1) rfl
  have hc:o.cls=.type "range" := by
    have:=hp1 (trunc 2 J)
    rw [h1] at this
    exact Option.some.inj this
  rw [den_builtin (entryFor_of_tree (b:=Builtin.«list.__iadd__») (by kernel_rfl))]
  intro Γ p hcd hΓ
  exact iadd_rest hne h2 hc (key Γ p hcd hΓ)
end
section
open PySem PySem.W PySem.W.X PySem.Spec PySem.Calls
set_option maxHeartbeats 0
noncomputable def X_iaddR (ta tb tc:Nat):Spec:={ n0:=2,k:=0,nt:=6,d:=500,code:=fun J=>.builtin "list.__iadd__" ⟨[.ref (J 0),.ref (J 1)],[]⟩,pre:=fun J=>[lst [] 0,{ cls:=.type "range",data:=.fields #[.int 0 ta,.int 6 tb,.int 1 tc] }],res:=fun J Z=>.ok (.ret (.ref (J 0))),post:=fun J Z=>[ro (oI (fun j=>j) (fun j=>Z j)) 8,{ cls:=.type "range",data:=.fields #[.int 0 ta,.int 6 tb,.int 1 tc] }],new:=fun J Z=>[] }
noncomputable def iaddR_hs (b1 b2:Bool):List Nat:=[2,2,2,2,2,2,3,2,2,2,2,2,2,2,1,1,1,1,1,1,3,3,3,3,3,3,3,3,3,1,1,1,3,3,3,3,3,3,3,3,3,1,1,1,3,3,3,3,3,3,3,3,3,1,1,1,3,3,3,3,3,3,3,3,3,1,1,1,3,3,3,3,3,3,3,3,3,1,1,1,3,3,3,3,3,3,3,3,3,1,1,1,3,3,3,3,3,5]
noncomputable def iaddR_cs (Pw:Params)(ta tb tc:Nat)(b1 b2:Bool):List Ev:=[]
theorem run_iaddR (ta tb tc:Nat)(Pw:Params):∀ (b1 b2:Bool) (J Z:Nu),RE (X_iaddR ta tb tc) (fun J=>restID (J 0) (J 1)) Pw b1 b2 158 (iaddR_hs b1 b2) (iaddR_cs Pw ta tb tc b1 b2) [] [2,3,4,5,6,7] J Z
  | true,b2,J,Z=>by kernel_rfl
  | false,b2,J,Z=>by kernel_rfl
theorem va_iaddR (w:World){ta tb tc:Nat}  (b1 b2:Bool):ValidAll prg w (gl w.params) (iaddR_cs w.params ta tb tc b1 b2):=va_nil
theorem ok_iaddR (w:World){ta tb tc:Nat}:(X_iaddR ta tb tc).Ok w :=
  ok_of_iadd (cl:=fun _=>default) rfl (fun _=>rfl) (fun _=>rfl) (hs:=iaddR_hs (row1 w) (row2 w)) (cs:=iaddR_cs w.params ta tb tc (row1 w) (row2 w)) (ns:=[]) (ts:=[2,3,4,5,6,7]) (va_iaddR w (row1 w) (row2 w)) rfl rfl (by decide) (fun _ h=>by cases h) (run_iaddR ta tb tc w.params (row1 w) (row2 w))
noncomputable def X_pA (Pw:Params)(v:List Iv)(sl:Nat→List Iv)(W:Nat→Nat):Spec:={ n0:=11,k:=9,nt:=28,d:=330,code:=fun J=>.func lwB (lwE J),pre:=fun J=>[tbF 183 (J 0) [],tbF 209 (J 1) [],ro v 0,frm [] 0,cellO (.ref (J 2)),cell0,cell0,cell0,cell0,cell0,cell0],res:=fun J Z=>.ok .next,post:=fun J Z=>[tbF 183 (J 0) [],tbF 209 (J 1) [.int 121 0,.int 33 0,.ref (J 14)],ro v 0,frm [⟨hsh Pw sOrder,.str sOrder (Z 14),.ref (J 13)⟩] 1,cellO (.ref (J 2)),cellO (.ref (J 11)),cell0,cell0,cell0,cell0,cellO (.ref (J 12))],new:=fun J Z=>[lst [.str ⟨#[97]⟩ (Z 15),.str ⟨#[98,34]⟩ (Z 16),.str ⟨#[35]⟩ (Z 17),.str ⟨#[100]⟩ (Z 18),.str ⟨#[101]⟩ (Z 19),.str ⟨#[102]⟩ (Z 20)] 0,ro (wI W (fun j=>Z (j+8))) 6,ro (oI (orI W (Z 0)) (fun j=>Z (j+1))) (Z 7),codO (.str sLambda (Z 21)) sKeyQ (Z 22) (codR 121 33 (Z 23) (J 15) (J 16) (J 17) (J 18) (J 19) (Z 26) (Z 27)),tupT [.str sWeights (Z 24)],tbl [],tupT [.str sKk (Z 25)],tupT [],tmpO sKeyQ lamK] }
noncomputable def pA_hs (b1 b2:Bool):List Nat:=(match b1,b2 with | true,true=>[6,6,0,0,13,13,13,13,13,13,13,13,13,13,14,16,16,16,11,11,0,0,0,0,17,17,17,17,0,2,2,2,2,0,0,0,26,27,4,4] | true,false=>[6,6,0,0,13,13,13,13,13,13,13,13,13,13,14,14,14,14,14,16,16,16,11,11,0,0,0,0,17,17,17,17,0,2,2,2,2,0,0,0,26,27,4,4] | false,true=>[6,6,0,0,13,13,13,13,13,13,13,13,13,13,14,16,16,16,11,11,0,0,0,0,17,17,17,17,0,2,2,2,2,0,0,0,26,27,4,4] | false,false=>[6,6,0,0,13,13,13,13,13,13,13,13,13,13,14,14,14,14,14,16,16,16,11,11,0,0,0,0,17,17,17,17,0,2,2,2,2,0,0,0,26,27,4,4])
noncomputable def pA_cs (Pw:Params)(v:List Iv)(sl:Nat→List Iv)(W:Nat→Nat)(b1 b2:Bool):List Ev:=(match b1,b2 with | true,true=>[evX (fun J Z=>X_wts Pw v sl W (J 3)) [15,13,14,4,2] 9 16 9,evX (fun J Z=>X_iaddR (Z 18) (Z 17) (Z 19)) [25,16] 9 26 27,evX (fun J Z=>X_sortK (.str sLambda (Z 20)) sKeyQ (Z 21) (codR 121 33 (Z 22) (J 18) (J 19) (J 20) (J 21) (J 22) (Z 25) (Z 26)) (J 17) W (pick [(Z 9),(Z 10),(Z 11),(Z 12),(Z 13),(Z 14)] 0) 6 (pick [(Z 27),(Z 28),(Z 29),(Z 30),(Z 31),(Z 32)] 0) 0) [26,24,23,10,14] 1 27 33] | true,false=>[evX (fun J Z=>X_wts Pw v sl W (J 3)) [15,13,14,4,2] 11 16 9,evX (fun J Z=>X_iaddR (Z 18) (Z 17) (Z 19)) [25,16] 9 26 27,evX (fun J Z=>X_sortK (.str sLambda (Z 20)) sKeyQ (Z 21) (codR 121 33 (Z 22) (J 18) (J 19) (J 20) (J 21) (J 22) (Z 25) (Z 26)) (J 17) W (pick [(Z 9),(Z 10),(Z 11),(Z 12),(Z 13),(Z 14)] 0) 6 (pick [(Z 27),(Z 28),(Z 29),(Z 30),(Z 31),(Z 32)] 0) 0) [26,24,23,10,14] 1 27 33] | false,true=>[evX (fun J Z=>X_wts Pw v sl W (J 3)) [15,13,14,4,2] 9 16 9,evX (fun J Z=>X_iaddR (Z 18) (Z 17) (Z 19)) [25,16] 9 26 27,evX (fun J Z=>X_sortK (.str sLambda (Z 20)) sKeyQ (Z 21) (codR 121 33 (Z 22) (J 18) (J 19) (J 20) (J 21) (J 22) (Z 25) (Z 26)) (J 17) W (pick [(Z 9),(Z 10),(Z 11),(Z 12),(Z 13),(Z 14)] 0) 6 (pick [(Z 27),(Z 28),(Z 29),(Z 30),(Z 31),(Z 32)] 0) 0) [26,24,23,10,14] 1 27 33] | false,false=>[evX (fun J Z=>X_wts Pw v sl W (J 3)) [15,13,14,4,2] 11 16 9,evX (fun J Z=>X_iaddR (Z 18) (Z 17) (Z 19)) [25,16] 9 26 27,evX (fun J Z=>X_sortK (.str sLambda (Z 20)) sKeyQ (Z 21) (codR 121 33 (Z 22) (J 18) (J 19) (J 20) (J 21) (J 22) (Z 25) (Z 26)) (J 17) W (pick [(Z 9),(Z 10),(Z 11),(Z 12),(Z 13),(Z 14)] 0) 6 (pick [(Z 27),(Z 28),(Z 29),(Z 30),(Z 31),(Z 32)] 0) 0) [26,24,23,10,14] 1 27 33])
theorem run_pA (v:List Iv)(sl:Nat→List Iv)(W:Nat→Nat)(Pw:Params):∀ (b1 b2:Bool) (J Z:Nu),RG (X_pA Pw v sl W) (fun J=>stD [stOf 0,stOf 1,stOf 2] (lwE J)) Pw b1 b2 153 (pA_hs b1 b2) (pA_cs Pw v sl W b1 b2) [11,14,26,23,18,19,20,21,22] [33,34,35,36,37,38,39,40,9,10,11,12,13,14,41,0,1,2,3,4,5,20,21,22,23,24,25,26] (upF J) Z
  | true,true,J,Z=>by kernel_rfl
  | true,false,J,Z=>by kernel_rfl
  | false,true,J,Z=>by kernel_rfl
  | false,false,J,Z=>by kernel_rfl
theorem va_pA (w:World){v:List Iv}{sl:Nat→List Iv}{W:Nat→Nat}(h:WOk v sl W)(b1 b2:Bool):ValidAll prg w (gl w.params) (pA_cs w.params v sl W b1 b2):=by cases b1<;>cases b2<;>exact vc (fun J Z=>ok_wts w h) rfl (vc (fun J Z=>ok_iaddR w) rfl (vc (fun J Z=>ok_sortK) rfl (va_nil)))
theorem ok_pA (w:World){v:List Iv}{sl:Nat→List Iv}{W:Nat→Nat}(h:WOk v sl W):StOk w (X_pA w.params v sl W) [stOf 0,stOf 1,stOf 2] lwE :=
  st_of_runG (hs:=pA_hs (row1 w) (row2 w)) (cs:=pA_cs w.params v sl W (row1 w) (row2 w)) (ns:=[11,14,26,23,18,19,20,21,22]) (ts:=[33,34,35,36,37,38,39,40,9,10,11,12,13,14,41,0,1,2,3,4,5,20,21,22,23,24,25,26]) (va_pA w h (row1 w) (row2 w)) rfl rfl (by decide) (show ∀ j∈([11,14,26,23,18,19,20,21,22]:List Nat),11≤j by decide) (hU_F (Nat.le_of_ble_eq_true rfl) (fun _=>rfl) (fun _=>rfl)) (run_pA v sl W w.params (row1 w) (row2 w)) (fun _=>rfl) (fun _ _=>⟨_,rfl⟩)
end
section
open PySem PySem.W PySem.W.X PySem.Spec PySem.Calls PyProof.Rows PyProof.V
set_option maxHeartbeats 1000000
noncomputable def dcd (B e:Nat):Nat→Nat:=fun j=>e / B ^ j%B
theorem dcd_of:∀ (ts:List Nat) (B:Nat),(∀ t∈ts,t<B)→∃ e,∀ j (hj:j<ts.length),dcd B e j=ts[j]
  | [],B,_=>⟨0,fun j hj=>by simp at hj⟩
  | t::ts,B,h=>by
    obtain ⟨e,he⟩:=dcd_of ts B fun x hx=>h x (mO hx)
    have ht:t<B:=h t mS
    have hB:0<B:=by omega
    refine ⟨t+B*e,fun j hj=>?_⟩
    match j,hj with
    | 0,_ =>
      show (t+B*e) / B ^ 0%B=t
      rw [Nat.pow_zero,Nat.div_one,Nat.add_mul_mod_self_left,Nat.mod_eq_of_lt ht]
    | j+1,hj =>
      show (t+B*e) / B ^ (j+1)%B=_
      rw [Nat.pow_succ,Nat.mul_comm (B ^ j) B,← Nat.div_div_eq_div_mul,Nat.add_mul_div_left _ _ hB,Nat.div_eq_of_lt ht,Nat.zero_add]
      exact he j (by simpa using hj)
theorem below_all (ts:List Nat):∃ B,∀ t∈ts,t<B:=by
  induction ts with
  | nil=>exact ⟨0,fun t h=>by cases h⟩
  | cons a ts ih =>
    obtain ⟨B,h⟩:=ih
    refine ⟨B+a+1,fun t ht=>?_⟩
    rcases mQ ht with rfl | ht
    · omega
    · have:=h t ht;omega
noncomputable def chV:List Nat→(Nat→Nat)→List Value
  | [],_=>[]
  | c::l,f=>.str ⟨#[c]⟩ (f 0)::chV l fun j=>f (j+1)
theorem chV_len:∀ (l:List Nat) (f:Nat→Nat),(chV l f).length=l.length
  | [],_=>rfl
  | c::l,f=>by rw [chV,List.length_cons,chV_len l,List.length_cons]
theorem chV_of:∀ (l:List Nat) (vs:List Value),vs.length=l.length→(∀ (j c:Nat) (v:Value),l[j]?=some c→vs[j]?=some v→∃ u,v=Value.str ⟨#[c]⟩ u)→∃ ts:List Nat,ts.length=l.length∧∀ f:Nat→Nat,(∀ j (hj:j<ts.length),f j=ts[j])→vs=chV l f
  | [],vs,h,_=>⟨[],rfl,fun f _=>by
    have:vs=[]:=List.length_eq_zero_iff.mp h
    rw [this];rfl⟩
  | c::l,[],h,_=>by simp at h
  | c::l,v::vs,h,hv=>by
    obtain ⟨u,rfl⟩:=hv 0 c v rfl rfl
    obtain ⟨ts,h1,h2⟩:=chV_of l vs (by simpa using h) fun j c v hc hvv=>hv (j+1) c v hc hvv
    refine ⟨u::ts,by rw [List.length_cons,h1,List.length_cons],fun f hf=>?_⟩
    have h0:f 0=u:=hf 0 (by simp)
    rw [chV,h0]
    congr 1
    exact h2 _ fun j hj=>hf (j+1) (by simpa using hj)
noncomputable def X_init (x:Str)(t:Nat):Spec:={ n0:=1,k:=0,nt:=3,d:=500,code:=fun J=>.builtin "list.__init__" ⟨[.ref (J 0),.str x t],[]⟩,pre:=fun _=>[lst [] 0],res:=fun _ _=>.ok (.ret .none),post:=fun _ θ=>[lst (chV x.cps.toList (dcd (θ 0) (θ 1))) (θ 2)],new:=fun _ _=>[] }
theorem ok_init {w:World}{x:Str}{t:Nat}(hx:x.length≤sizeLine):(X_init x t).Ok w:=by
  refine ok_of_con fun J=>?_
  show Con w 500 (.builtin "list.__init__" ⟨[.ref (J 0),.str x t],[]⟩) [J 0] [lst [] 0] _
  refine con_builtin (b:=Builtin.«list.__init__») (by decide +kernel) (entryFor_of_tree (by kernel_rfl)) fun A s R sA hg hpre hnd hout hR=>?_
  have ho:s.heap.get? (J 0)=some (lst [] 0):=(has_cons.mp (show Has s.heap [J 0] [lst [] 0] from hpre)).1
  have hout:∀ a∈[J 0],gl w.params a=none∧183≤a:=hout
  have hn:x.cps.size≤sizeLine:=hx
  refine wpAny_mono (wpAny_grow (Q:=fun fin s'=>match fin with
    | .done f=>f=.ret .none∧s'=s∧False
    | .again c'=>c'=.builtin "list.extend.loop" ⟨[.ref (J 0),.ref s.heap.objs.size,.none],[]⟩∧codeAny (model prg w) A c' (fun r s'=>r=.ok (.ret .none)∧(∃ vs c,s'.heap.get? (J 0)=some (lst vs c)∧ItemsOf (SignAt x) vs.toArray x.cps.size)∧(∀ b o,b≠J 0→s.heap.get? b=some o→s'.heap.get? b=some o)∧s'.gens=s.gens∧s'.drawn=s.drawn∧s'.os=s.os∧Grow s s') s') (E:=fun _ _=>False) ?_) ?_ ?_
  · show wpAny _ A.in1 (Builtin.List.listItems (.ref (J 0)) >>= _) _ _ s
    refine wpAny_bind (listItems_at ho rfl ?_)
    obtain ⟨e1,ho1⟩:∃ e1,(s.heap.update (J 0) (Obj.mapSeq fun _=>(#[]:Array Value))).get? (J 0)=some (seqObj "list" #[] e1):=⟨_,get?_update_seq ho fun _=>#[]⟩
    have s1:=Heap.SameBut.update s.heap (J 0) (Obj.mapSeq fun _=>(#[]:Array Value))
    refine wpAny_bind (listUpdate_at ho rfl ?_ (Nat.zero_le _) (Nat.zero_le _))
    refine wpAny_bind (wpAny_letGo ?_)
    show wpAny _ A.in1 (Builtin.List.listExtendWith (.ref (J 0)) (.str x t) .none) _ _ _
    unfold Builtin.List.listExtendWith
    refine wpAny_bind (wpAny_typeOf (T := "str") (v:=.str x t) rfl ?_)
    have h1:Builtin.List.listSameRef (.ref (J 0)) (.str x t)=false:=rfl
    have h2:(Value.type "str" == Value.type "list")=false:=by decide
    have h3:(Value.type "str" == Value.type "tuple")=false:=by decide
    simp only [h1,h2,h3,Bool.or_false,Bool.false_eq_true,if_false]
    refine wpAny_bind (wpAny_pyIter_str fun o St W hst=>?_)
    refine wpAny_bind (wpAny_holding ?_)
    unfold Builtin.List.listLengthHint
    refine wpAny_bind (wpAny_specialOf (T := "str") (v:=.str x t) rfl F.str_len ?_)
    wp_delta
    refine wpAny_bind (wpAny_isInstance (T := "str") (v:=.str x t) (b:=true) rfl (by rw [isSubtype_type];kernel_rfl) ?_)
    show wpAny _ A.in1 (typeOf (Value.str x t) >>= _) _ _ _
    refine wpAny_bind (wpAny_typeOf (T := "str") (v:=.str x t) rfl ?_)
    refine wpAny_pure ?_
    rw [if_neg (by decide)]
    generalize hH:s.heap.update (J 0) (Obj.mapSeq fun _=>(#[]:Array Value))=H at W hst s1 ho1 ⊢
    have hHs:H.objs.size=s.heap.objs.size:=by rw [← hH,Heap.size_update]
    have l0:J 0<s.heap.objs.size:=Heap.lt_size ho
    have hSf:J 0 ∉ [H.objs.size]:=fun hm=>by rw [List.mem_singleton.mp hm,hHs] at l0;exact Nat.lt_irrefl _ l0
    have hS:(H.push o).get? (J 0)=some { cls:=.type "list",data:=.seq ([]:List Value).toArray e1 }:=Heap.get?_push_of_some _ ho1
    refine wpAny_pure ⟨by rw [hHs],codeAny_mono (code_grow (codeAny_extend_loopS (W A.in1 sA.1).toS hn _ hSf _ x.cps.size 0 _ _ _ rfl (Nat.zero_le _) hst hS (ItemsOf.nil _) (R:=fun r s'=>r=.ok (.ret .none)∧(∃ vs c,s'.heap.get? (J 0)=some (lst vs c)∧ItemsOf (SignAt x) vs.toArray x.cps.size)∧(∀ b o,b≠J 0→s.heap.get? b=some o→s'.heap.get? b=some o)∧s'.gens=s.gens∧s'.drawn=s.drawn∧s'.os=s.os) fun s' acc' c' hm hS' hacc=>⟨rfl,⟨acc'.toList,c',hS',by rw [Array.toArray_toList];exact hacc⟩,fun b ob hb e=>hm.heap b ob (fun hm2=>?_) (Heap.get?_push_of_some _ ((s1.2 b hb).trans e)),hm.gens,hm.drawn,hm.os⟩)) ?_⟩
    · rcases mQ hm2 with h | h
      · exact hb h
      · rw [List.mem_singleton.mp h,hHs] at e
        exact absurd (Heap.lt_size e) (Nat.lt_irrefl _)
    · rintro r s' ⟨⟨a1,a2,a3,a4,a5,a6⟩,gr⟩
      refine ⟨a1,a2,a3,a4,a5,a6,⟨Nat.le_trans ?_ gr.size,gr.toks⟩⟩
      show _≤(H.push o).objs.size
      rw [Heap.size_push,hHs]
      exact Nat.le_succ _
  · rintro fin s' ⟨h,gr⟩
    cases fin with
    | done f=>exact h.2.2.elim
    | again c' =>
      obtain ⟨rfl,h⟩:=h
      refine ⟨plainId_quiet F.plain_extend_loop _,codeAny_mono h ?_⟩
      rintro r s2 ⟨rfl,⟨vs,c,g1,hsz,hit⟩,kp,e1,e2,e3,gr2⟩
      obtain ⟨ts,hl,hch⟩:=chV_of x.cps.toList vs (by have:vs.toArray.size=x.cps.size:=hsz;simpa using this) fun j c v hc hv=>by
        obtain ⟨c2,u,q1,q2⟩:=hit j v (by simpa using hv)
        have:some c2=some c:=by rw [← q1,← hc];simp
        cases this
        exact ⟨u,q2⟩
      obtain ⟨B,hB⟩:=below_all ts
      obtain ⟨e,he⟩:=dcd_of ts B hB
      rw [hch (dcd B e) he] at g1
      refine hR _ _ ⟨[lst (chV x.cps.toList (dcd B e)) c],[],⟨[B,e,c],rfl,rfl,rfl,rfl,rfl⟩,has_cons.mpr ⟨g1,rfl⟩,(fun _ h=>by cases h),List.nodup_nil,?_⟩
      have es:s2={ s with heap:=s2.heap,toks:=s2.toks }:=by
        cases s2
        cases s
        dsimp only at e1 e2 e3 ⊢
        rw [e1,e2,e3]
      rw [es]
      rw [es] at gr2
      exact after_of hg (fun a ha=>(hout a ha).1) (fun b o hb e=>kp b o (fun z=>hb (by rw [z];exact List.mem_cons_self ..)) e) gr2
  · rintro e s' ⟨z,_⟩
    exact z.elim
end
section
open PySem PySem.W PySem.W.X PySem.Spec PySem.Calls
set_option maxHeartbeats 1000000
noncomputable def wd:List Nat→(Nat→Nat)→Wd
  | [],_=>[]
  | c::l,f=>(c-1,f 0)::wd l fun j=>f (j+1)
theorem wd_len:∀ (l:List Nat) (f:Nat→Nat),(wd l f).length=l.length
  | [],_=>rfl
  | c::l,f=>by rw [wd,List.length_cons,wd_len l,List.length_cons]
theorem wv_wd:∀ (l:List Nat) (f:Nat→Nat) (r:List Value),(∀ c∈l,1≤c)→wv (wd l f) r=chV l f++r
  | [],_,_,_=>rfl
  | c::l,f,r,h=>by
    have hc:=h c mS
    rw [wd,wv,chV,List.cons_append,wv_wd l _ r fun x hx=>h x (mO hx),show c-1+1=c by omega]
theorem chV_app:∀ (l r:List Nat) (f:Nat→Nat),chV (l++r) f=chV l f++chV r (fun j=>f (j+l.length))
  | [],r,f=>rfl
  | c::l,r,f=>by
    rw [List.cons_append,chV,chV_app l r,chV,List.cons_append]
    rfl
theorem wAcc_wd:∀ (l:List Nat) (f:Nat→Nat) (s:Str),(∀ c∈l,1≤c)→(wAcc s (wd l f)).cps.toList=s.cps.toList++l
  | [],_,s,_=>by rw [wd,wAcc,List.append_nil]
  | c::l,f,s,h=>by
    have hc:=h c mS
    rw [wd,wAcc,wAcc_wd l _ _ fun x hx=>h x (mO hx),show c-1+1=c by omega,cps_append,List.append_assoc]
    rfl
theorem wE_wd:∀ (l:List Nat) (f:Nat→Nat) (e:Nat),wE e (wd l f)=e+l.length+1
  | [],_,e=>rfl
  | c::l,f,e=>by rw [wd,wE,wE_wd l,List.length_cons];omega
theorem wF_wd:∀ (l:List Nat) (f:Nat→Nat) (e:Nat),wF e (wd l f)=e+l.length
  | [],_,e=>rfl
  | c::l,f,e=>by rw [wd,wF,wF_wd l,List.length_cons];omega
structure WordOk (l:List Nat):Prop where
  ne:l≠[]
  hd:l.head?≠some 34
  pl:∀ c∈l,1≤c∧c≠10∧c≠9∧c≠13∧c≠32∧c≠92
theorem plain_pred {a:Nat}(h:1≤a∧a≠10∧a≠9∧a≠13∧a≠32∧a≠92):plainCh (a-1):=by
  unfold plainCh;omega
theorem word_cons {l:List Nat}(h:WordOk l):∃ c u,l=(c+1)::u∧plainCh c∧([c+1]==[34])=false∧(∀ x∈u,1≤x)∧∀ f,Plain (wd u f):=by
  obtain ⟨h1,h2,h3⟩:=h
  match l,h1,h2,h3 with
  | x::u,_,h2,h3 =>
    have hx:=h3 x mS
    refine ⟨x-1,u,by rw [show x-1+1=x by omega],?_,?_,fun y hy=>(h3 y (mO hy)).1,fun f=>?_⟩
    · exact plain_pred hx
    · have:x≠34:=fun z=>h2 (by rw [z];rfl)
      rw [show x-1+1=x by omega]
      simpa using this
    · have:∀ (u:List Nat) (f:Nat→Nat),(∀ c∈u,1≤c∧c≠10∧c≠9∧c≠13∧c≠32∧c≠92)→Plain (wd u f):=by
        intro u
        induction u with
        | nil=>intro f _ y hy;cases hy
        | cons a u ih =>
          intro f hu y hy
          rw [wd] at hy
          rcases mQ hy with rfl | hy
          · have:=hu a mS
            exact plain_pred this
          · exact ih _ (fun c hc=>hu c (mO hc)) y hy
      exact this u f fun c hc=>h3 c (mO hc)
def CutA (L R:List Value)(e e':Nat)(y:Str):Prop:=L.length<sizeLine ∧
  ((∃ l f sep r,WordOk l∧(sep=32∨sep=13)∧L=chV (l++sep::r) f∧R=chV r (fun j=>f (j+(l.length+1)))∧e'=e+l.length+1∧y=lS l) ∨
    (∃ l f,WordOk l∧L=chV l f∧R=[]∧e'=e+l.length∧y=lS l))
def CutB (L R:List Value)(e e':Nat)(y:Str):Prop:=∃ t L',L.length<sizeLine∧L=.str ⟨#[10]⟩ t::L'∧CutA L' R (e+1) e' y
noncomputable def X_gtA (p:SP)(n:Int)(tn e e3:Nat)(L R:List Value)(e':Nat)(y:Str):Spec:={ n0:=9,k:=0,nt:=1,d:=500,code:=fun J=>.call (.ref 150) ⟨[.ref (J 0)],[]⟩,pre:=fun J=>(strm p J 0 (.int n tn) (J 8) L e++[lst [] e3]),res:=fun J Z=>.ok (.ret (.str y (Z 0))),post:=fun J Z=>(strm p J 0 (.int n tn) (J 8) R e'++[lst [] e3]),new:=fun J Z=>[] }
noncomputable def X_gtB (p:SP)(n:Int)(tn e e3:Nat)(L R:List Value)(e':Nat)(y:Str):Spec:={ n0:=9,k:=0,nt:=2,d:=500,code:=fun J=>.call (.ref 150) ⟨[.ref (J 0)],[]⟩,pre:=fun J=>(strm p J 0 (.int n tn) (J 8) L e++[lst [] e3]),res:=fun J Z=>.ok (.ret (.str y (Z 0))),post:=fun J Z=>(strm p J 0 (.int (n+1) (Z 1)) (J 8) R e'++[lst [] e3]),new:=fun J Z=>[] }
theorem cut_eq {c:Nat}{u:List Nat}{f:Nat→Nat}{r:List Value}(h:∀ x∈u,1≤x):chV ((c+1)::u) f++r=.str ⟨#[c+1]⟩ (f 0)::wv (wd u fun j=>f (j+1)) r:=by
  rw [wv_wd _ _ _ h,chV,List.cons_append]
theorem acc_eq {c:Nat}{u:List Nat}{f:Nat→Nat}(h:∀ x∈u,1≤x):lS ((c+1)::u)=wAcc ⟨#[c+1]⟩ (wd u f):=by
  refine str_ext ?_
  rw [wAcc_wd _ _ _ h]
  rfl
theorem ok_gtA {w:World}{p:SP}{n:Int}{tn e e3:Nat}{L R:List Value}{e':Nat}{y:Str}(h:CutA L R e e' y):(X_gtA p n tn e e3 L R e' y).Ok w:=by
  obtain ⟨hz,h⟩:=h
  rcases h with ⟨l,f,sep,r,hw,hs,rfl,rfl,rfl,rfl⟩ | ⟨l,f,hw,rfl,rfl,rfl,rfl⟩
  · obtain ⟨c,u,rfl,h1,h2,h3,h4⟩:=word_cons hw
    rw [chV_len] at hz
    simp only [List.length_append,List.length_cons] at hz
    have e1:chV ((c+1)::u++sep::r) f=.str ⟨#[c+1]⟩ (f 0)::wv (wd u fun j=>f (j+1)) (.str ⟨#[(sep-1)+1]⟩ (f (u.length+1))::chV r (fun j=>f (j+(u.length+1+1)))):=by
      rw [chV_app,cut_eq h3,chV]
      have:sep-1+1=sep:=by omega
      rw [this]
      congr 3
      · show Value.str _ (f (0+(u.length+1)))=_
        rw [Nat.zero_add]
      · congr 1
        funext j
        show f (j+1+(u.length+1))=_
        congr 1;omega
    have key:=ok_gtS w (p:=p) (n:=n) (tn:=tn) (e:=e) (e3:=e3) (c:=c) (tv:=f 0) (u:=wd u fun j=>f (j+1)) (tc:=sep-1) (tt:=f (u.length+1)) (r:=chV r (fun j=>f (j+(u.length+1+1)))) h1 h2 (h4 _) (by rw [wd_len];omega) (by rcases hs with rfl | rfl<;>rfl) (by rcases hs with rfl | rfl<;>decide) (by rw [wv_len,wd_len,List.length_cons,chV_len];omega) (by rw [wd_len,chV_len];omega)
    have ex:X_gtA p n tn e e3 (chV ((c+1)::u++sep::r) f) (chV r fun j=>f (j+(((c+1)::u).length+1))) (e+((c+1)::u).length+1) (lS ((c+1)::u))=X_gtS p n tn e e3 c (f 0) (wd u fun j=>f (j+1)) (sep-1) (f (u.length+1)) (chV r (fun j=>f (j+(u.length+1+1)))):=by
      unfold X_gtA X_gtS
      rw [e1,acc_eq (f:=fun j=>f (j+1)) h3,wE_wd,List.length_cons,show e+(u.length+1)+1=e+1+u.length+1 from by omega]
    rw [ex]
    exact key
  · obtain ⟨c,u,rfl,h1,h2,h3,h4⟩:=word_cons hw
    rw [chV_len] at hz
    simp only [List.length_cons] at hz
    have e1:chV ((c+1)::u) f=.str ⟨#[c+1]⟩ (f 0)::wv (wd u fun j=>f (j+1)) []:=by
      rw [← cut_eq h3,List.append_nil]
    have key:=ok_gtE w (p:=p) (n:=n) (tn:=tn) (e:=e) (e3:=e3) (c:=c) (tv:=f 0) (u:=wd u fun j=>f (j+1)) h1 h2 (h4 _) (by rw [wd_len];omega) (by rw [wv_len,wd_len,List.length_nil];omega)
    have ex:X_gtA p n tn e e3 (chV ((c+1)::u) f) [] (e+((c+1)::u).length) (lS ((c+1)::u))=X_gtE p n tn e e3 c (f 0) (wd u fun j=>f (j+1)):=by
      unfold X_gtA X_gtE
      rw [e1,acc_eq (f:=fun j=>f (j+1)) h3,wF_wd,List.length_cons,show e+(u.length+1)=e+1+u.length from by omega]
    rw [ex]
    exact key
theorem ok_gtB {w:World}{p:SP}{n:Int}{tn e e3:Nat}{L R:List Value}{e':Nat}{y:Str}(h:CutB L R e e' y):(X_gtB p n tn e e3 L R e' y).Ok w:=by
  obtain ⟨t,L',hz0,rfl,hz,h⟩:=h
  rcases h with ⟨l,f,sep,r,hw,hs,rfl,rfl,rfl,rfl⟩ | ⟨l,f,hw,rfl,rfl,rfl,rfl⟩
  · obtain ⟨c,u,rfl,h1,h2,h3,h4⟩:=word_cons hw
    rw [List.length_cons,chV_len] at hz0
    simp only [List.length_append,List.length_cons] at hz0
    have e1:chV ((c+1)::u++sep::r) f=.str ⟨#[c+1]⟩ (f 0)::wv (wd u fun j=>f (j+1)) (.str ⟨#[(sep-1)+1]⟩ (f (u.length+1))::chV r (fun j=>f (j+(u.length+1+1)))):=by
      rw [chV_app,cut_eq h3,chV]
      have:sep-1+1=sep:=by omega
      rw [this]
      congr 3
      · show Value.str _ (f (0+(u.length+1)))=_
        rw [Nat.zero_add]
      · congr 1
        funext j
        show f (j+1+(u.length+1))=_
        congr 1;omega
    have key:=ok_gtNS w (p:=p) (n:=n) (tn:=tn) (e:=e) (e3:=e3) (tv0:=t) (c:=c) (tv:=f 0) (u:=wd u fun j=>f (j+1)) (tc:=sep-1) (tt:=f (u.length+1)) (r:=chV r (fun j=>f (j+(u.length+1+1)))) h1 h2 (h4 _) (by rw [wd_len];omega) (by rcases hs with rfl | rfl<;>rfl) (by rcases hs with rfl | rfl<;>decide) (by rw [wv_len,wd_len,List.length_cons,chV_len];omega) (by rw [wd_len,chV_len];omega) (by simp only [List.length_cons,wv_len,wd_len,chV_len];omega)
    have ex:X_gtB p n tn e e3 (.str ⟨#[10]⟩ t::chV ((c+1)::u++sep::r) f) (chV r fun j=>f (j+(((c+1)::u).length+1))) (e+1+((c+1)::u).length+1) (lS ((c+1)::u))=X_gtNS p n tn e e3 t c (f 0) (wd u fun j=>f (j+1)) (sep-1) (f (u.length+1)) (chV r (fun j=>f (j+(u.length+1+1)))):=by
      unfold X_gtB X_gtNS
      rw [e1,acc_eq (f:=fun j=>f (j+1)) h3,wE_wd,List.length_cons,show e+1+(u.length+1)+1=e+1+1+u.length+1 from by omega]
    rw [ex]
    exact key
  · obtain ⟨c,u,rfl,h1,h2,h3,h4⟩:=word_cons hw
    rw [List.length_cons,chV_len] at hz0
    simp only [List.length_cons] at hz0
    have e1:chV ((c+1)::u) f=.str ⟨#[c+1]⟩ (f 0)::wv (wd u fun j=>f (j+1)) []:=by
      rw [← cut_eq h3,List.append_nil]
    have key:=ok_gtNE w (p:=p) (n:=n) (tn:=tn) (e:=e) (e3:=e3) (tv0:=t) (c:=c) (tv:=f 0) (u:=wd u fun j=>f (j+1)) h1 h2 (h4 _) (by rw [wd_len];omega) (by rw [wv_len,wd_len,List.length_nil];omega) (by simp only [List.length_cons,wv_len,wd_len,List.length_nil];omega)
    have ex:X_gtB p n tn e e3 (.str ⟨#[10]⟩ t::chV ((c+1)::u) f) [] (e+1+((c+1)::u).length) (lS ((c+1)::u))=X_gtNE p n tn e e3 t c (f 0) (wd u fun j=>f (j+1)):=by
      unfold X_gtB X_gtNE
      rw [e1,acc_eq (f:=fun j=>f (j+1)) h3,wF_wd,List.length_cons,show e+1+(u.length+1)=e+1+1+u.length from by omega]
    rw [ex]
    exact key
end
section
open PySem PySem.W PySem.W.X PySem.Spec PySem.Calls
set_option maxHeartbeats 0
noncomputable def hLex (P:Params):Nat→Int:=pick [hsh P sLineno,hsh P sInstream,hsh P sWhitespace,hsh P sPushback,0,hsh P sRead] 0
noncomputable def fLex (a b c d e f:Nat):Nat→Nat:=pick [a,b,c,d,e,f] 0
noncomputable def X_stm1 (Pw:Params)(L:List Value)(e:Nat):Spec:={ n0:=2,k:=12,nt:=14,d:=420,code:=fun J=>.call (.ref 188) ⟨[.ref (J 1)],[]⟩,pre:=fun J=>[tbF 183 (J 0) [],lst L e],res:=fun J Z=>.ok (.ret (.ref (J 2))),post:=fun J Z=>[tbF 183 (J 0) [.int 91 0,.int 18 0,.ref (J 6)],lst L e],new:=fun J Z=>[lexO (J 3),lexD (hLex Pw) (fLex (Z 1) (Z 2) (Z 3) (Z 4) (Z 5) (Z 6)) (.int 1 (Z 0)) .none (J 4) [⟨hsh Pw sRead,.str sRead (Z 6),.ref (J 5)⟩] 5,lst [] 0,lamO lamP (J 7) (J 6) (J 8),codO (.str sLambda (Z 7)) sLamQ (Z 8) (codR 91 18 (Z 9) (J 9) (J 10) (J 11) (J 12) (J 13) (Z 12) (Z 13)),cellO (.ref (J 1)),tupT [.ref (J 7)],tupT [.str sLeft (Z 10)],tbl [],tupT [.str sSize (Z 11)],tupT [],tmpO sLamQ lamP] }
noncomputable def stm1_hs (b1 b2:Bool):List Nat:=[0,0,4,4,1,0,0,0,0,0,0,0,0,0,0,0,0,0,0,0,0,0,0,0,0,0,0,0,0,0,0,0,0,0,6,0,6,0,0,0,0,0,0,7,7,7,7,1,7,6,0,0,0,6,0,6,0,6,0,0,0,6,0,5,5,5,7,7,6,0,0,0,6,0,6,0,6,0,0,0,6,0,5,5,5,7,6,0,0,0,6,0,6,0,6,0,0,0,6,0,5,5,5,7,6,0,0,0,6,0,6,0,6,0,0,0,6,0,5,5,5,3,3,0,1,1,1,1,0,0,0,3,6,0,0,0,6,0,6,0,6,0,0,0,6,0,5,5,5,3]
noncomputable def stm1_cs (Pw:Params)(L:List Value)(e:Nat)(b1 b2:Bool):List Ev:=[]
theorem run_stm1 (L:List Value)(e:Nat)(Pw:Params):∀ (b1 b2:Bool) (J Z:Nu),RG (X_stm1 Pw L e) (fun J=>den ((X_stm1 Pw L e).code J)) Pw b1 b2 256 (stm1_hs b1 b2) (stm1_cs Pw L e b1 b2) [5,4,7,15,14,3,8,9,10,11,12,13] [2,4,6,9,7,11,21,13,14,15,16,17,18,19] (upS J) Z
  | true,b2,J,Z=>by kernel_rfl
  | false,b2,J,Z=>by kernel_rfl
theorem ok_stm1 (w:World){L:List Value}{e:Nat}  : (X_stm1 w.params L e).Ok w :=
  ok_of_runG (hs:=stm1_hs (row1 w) (row2 w)) (cs:=stm1_cs w.params L e (row1 w) (row2 w)) (ns:=[5,4,7,15,14,3,8,9,10,11,12,13]) (ts:=[2,4,6,9,7,11,21,13,14,15,16,17,18,19]) (va_nil) rfl rfl (by decide) (show ∀ j∈([5,4,7,15,14,3,8,9,10,11,12,13]:List Nat),2≤j by decide) (hU_S (Nat.le_of_ble_eq_true rfl) (fun _=>rfl)) (run_stm1 L e w.params (row1 w) (row2 w))
noncomputable def X_stm2 (Pw:Params)(L:List Value)(e:Nat)(v0:Value)(q:Str)(tq:Nat)(rest:List Value):Spec:={ n0:=3,k:=6,nt:=7,d:=420,code:=fun J=>.call (.ref 188) ⟨[.ref (J 1)],[]⟩,pre:=fun J=>[tbF 183 (J 0) [.int 91 0,.int 18 0,.ref (J 2)],lst L e,codO v0 q tq rest],res:=fun J Z=>.ok (.ret (.ref (J 3))),post:=fun J Z=>[tbF 183 (J 0) [.int 91 0,.int 18 0,.ref (J 2)],lst L e,codO v0 q tq rest],new:=fun J Z=>[lexO (J 4),lexD (hLex Pw) (fLex (Z 1) (Z 2) (Z 3) (Z 4) (Z 5) (Z 6)) (.int 1 (Z 0)) .none (J 5) [⟨hsh Pw sRead,.str sRead (Z 6),.ref (J 6)⟩] 5,lst [] 0,lamO lamP (J 7) (J 2) (J 8),cellO (.ref (J 1)),tupT [.ref (J 7)]] }
noncomputable def stm2_hs (b1 b2:Bool):List Nat:=[0,0,5,5,1,0,0,0,0,0,0,0,0,0,0,0,0,0,0,0,0,0,0,0,0,0,0,0,0,0,0,0,0,0,7,0,7,0,0,0,0,0,0,8,8,8,8,1,8,7,0,0,0,7,0,7,0,7,0,0,0,7,0,6,6,6,8,8,7,0,0,0,7,0,7,0,7,0,0,0,7,0,6,6,6,8,7,0,0,0,7,0,7,0,7,0,0,0,7,0,6,6,6,8,7,0,0,0,7,0,7,0,7,0,0,0,7,0,6,6,6,4,4,0,1,0,0,0,4,7,0,0,0,7,0,7,0,7,0,0,0,7,0,6,6,6,4]
noncomputable def stm2_cs (Pw:Params)(L:List Value)(e:Nat)(v0:Value)(q:Str)(tq:Nat)(rest:List Value)(b1 b2:Bool):List Ev:=[]
theorem run_stm2 (L:List Value)(e:Nat)(v0:Value)(q:Str)(tq:Nat)(rest:List Value)(Pw:Params):∀ (b1 b2:Bool) (J Z:Nu),RG (X_stm2 Pw L e v0 q tq rest) (fun J=>den ((X_stm2 Pw L e v0 q tq rest).code J)) Pw b1 b2 240 (stm2_hs b1 b2) (stm2_cs Pw L e v0 q tq rest b1 b2) [6,5,8,10,4,9] [2,4,6,9,7,11,14] (upS J) Z
  | true,b2,J,Z=>by kernel_rfl
  | false,b2,J,Z=>by kernel_rfl
theorem ok_stm2 (w:World){L:List Value}{e:Nat}{v0:Value}{q:Str}{tq:Nat}{rest:List Value}  : (X_stm2 w.params L e v0 q tq rest).Ok w :=
  ok_of_runG (hs:=stm2_hs (row1 w) (row2 w)) (cs:=stm2_cs w.params L e v0 q tq rest (row1 w) (row2 w)) (ns:=[6,5,8,10,4,9]) (ts:=[2,4,6,9,7,11,14]) (va_nil) rfl rfl (by decide) (show ∀ j∈([6,5,8,10,4,9]:List Nat),3≤j by decide) (hU_S (Nat.le_of_ble_eq_true rfl) (fun _=>rfl)) (run_stm2 L e v0 q tq rest w.params (row1 w) (row2 w))
noncomputable def X_lex (Pw:Params)(st:Nat):Spec:={ n0:=0,k:=3,nt:=6,d:=420,code:=fun J=>.call (.ref 160) ⟨[.ref st],[]⟩,pre:=fun J=>[],res:=fun J Z=>.ok (.ret (.ref (J 0))),post:=fun J Z=>[],new:=fun J Z=>[lexO (J 1),lexD (hLex Pw) (fLex (Z 1) (Z 2) (Z 3) (Z 4) (Z 5) 0) (.int 1 (Z 0)) (.ref st) (J 2) [] 4,lst [] 0] }
noncomputable def lex_hs (b1 b2:Bool):List Nat:=[0,0,0,0,0,0,0,0,0,0,0,0,0,0,0,0,0,0,0,0,0,0,0,0,0,0,2,0,2,0,0,0,0,0,0,3,3,3,3,1,3,2,0,0,0,2,0,2,0,2,0,0,0,2,0,1,1,1,3,3,2,0,0,0,2,0,2,0,2,0,0,0,2,0,1,1,1,3,2,0,0,0,2,0,2,0,2,0,0,0,2,0,1,1,1,3,2,0,0,0,2,0,2,0,2,0,0,0,2,0,1,1,1]
noncomputable def lex_cs (Pw:Params)(st:Nat)(b1 b2:Bool):List Ev:=[]
theorem run_lex (st:Nat)(Pw:Params):∀ (b1 b2:Bool) (J Z:Nu),RD (X_lex Pw st) Pw b1 b2 178 (lex_hs b1 b2) (lex_cs Pw st b1 b2) [1,0,3] [2,4,6,9,7,11] J Z
  | true,b2,J,Z=>by kernel_rfl
  | false,b2,J,Z=>by kernel_rfl
theorem ok_lex (w:World){st:Nat}  : (X_lex w.params st).Ok w :=
  ok_of_run (hs:=lex_hs (row1 w) (row2 w)) (cs:=lex_cs w.params st (row1 w) (row2 w)) (ns:=[1,0,3]) (ts:=[2,4,6,9,7,11]) (va_nil) rfl rfl (by decide) (show ∀ j∈([1,0,3]:List Nat),0≤j by decide) (run_lex st w.params (row1 w) (row2 w))
end
section
open PySem PySem.W PySem.W.X PySem.Spec PySem.Calls
set_option maxHeartbeats 1000000
noncomputable def nmC:Nat→List Nat
  | 0=>[97]
  | 1=>[98,34]
  | 2=>[35]
  | 3=>[100]
  | 4=>[101]
  | _=>[102]
noncomputable def nmS (k:Nat):Str:=lS (nmC k)
noncomputable def nmV (nt:Nat→Nat):List (Str×Tok):=[(nmS 0,nt 0),(nmS 1,nt 1),(nmS 2,nt 2),(nmS 3,nt 3),(nmS 4,nt 4),(nmS 5,nt 5)]
theorem nm_get {nt:Nat→Nat}{k:Nat}(hk:k<6):((nmV nt).map (·.1))[((k:Nat):Int).toNat]?=some (nmS k):=by
  rw [Int.toNat_natCast]
  match k,hk with
  | 0,_=>rfl
  | 1,_=>rfl
  | 2,_=>rfl
  | 3,_=>rfl
  | 4,_=>rfl
  | 5,_=>rfl
theorem nm_word (k:Nat):WordOk (nmC k):=by
  unfold nmC
  split<;>exact ⟨by simp,by decide,by decide⟩
theorem nm_len (k:Nat):(nmC k).length≤2:=by
  unfold nmC
  split<;>simp
structure OOk (W o:Nat→Nat):Prop where
  o:∀ j,j<6→o j<6
  w:∀ k,k<6→1≤W k∧W k≤30
noncomputable def lineFrom:List (List Nat)→List Nat
  | []=>[]
  | [w]=>w
  | w::ws=>w++32::lineFrom ws
noncomputable def wsO (o:Nat→Nat):List (List Nat):=[nmC (o 0),nmC (o 1),nmC (o 2),nmC (o 3),nmC (o 4),nmC (o 5)]
noncomputable def lineC (o:Nat→Nat):List Nat:=lineFrom (wsO o)
noncomputable def shO (o:Nat→Nat):Nat→Nat
  | 0=>0
  | j+1=>shO o j+((nmC (o j)).length+1)
noncomputable def LL (o f:Nat→Nat)(j:Nat):List Value:=chV (lineFrom ((wsO o).drop j)) fun i=>f (i+shO o j)
noncomputable def EE (o:Nat→Nat)(e:Nat):Nat→Nat
  | 0=>e
  | 5+1=>EE o e 5+(nmC (o 5)).length
  | j+1=>EE o e j+(nmC (o j)).length+1
theorem line_small (o:Nat→Nat)(j:Nat):(lineFrom ((wsO o).drop j)).length≤17:=by
  have h0:=nm_len (o 0);have h1:=nm_len (o 1);have h2:=nm_len (o 2);have h3:=nm_len (o 3);have h4:=nm_len (o 4);have h5:=nm_len (o 5)
  unfold wsO
  match j with
  | 0=>simp only [List.drop_zero,lineFrom,List.length_append,List.length_cons];omega
  | 1=>simp only [List.drop_succ_cons,List.drop_zero,lineFrom,List.length_append,List.length_cons];omega
  | 2=>simp only [List.drop_succ_cons,List.drop_zero,lineFrom,List.length_append,List.length_cons];omega
  | 3=>simp only [List.drop_succ_cons,List.drop_zero,lineFrom,List.length_append,List.length_cons];omega
  | 4=>simp only [List.drop_succ_cons,List.drop_zero,lineFrom,List.length_append,List.length_cons];omega
  | 5=>simp only [List.drop_succ_cons,List.drop_zero,lineFrom];omega
  | j+6=>simp [lineFrom]
theorem LL_small (o f:Nat→Nat)(j:Nat):(LL o f j).length<sizeLine:=by
  unfold LL
  rw [chV_len]
  have:=line_small o j
  have:=sizeLine_eq
  omega
theorem line_cut (o f:Nat→Nat)(e j:Nat)(hj:j<6):CutA (LL o f j) (LL o f (j+1)) (EE o e j) (EE o e (j+1)) (nmS (o j)):=by
  refine ⟨LL_small o f j,?_⟩
  have step:∀ (j:Nat) (w:List Nat) (ws:List (List Nat)),(wsO o).drop j=w::ws→ws≠[]→(wsO o).drop (j+1)=ws→w=nmC (o j)→EE o e (j+1)=EE o e j+(nmC (o j)).length+1 →
      ∃ l g sep r,WordOk l∧(sep=32∨sep=13)∧LL o f j=chV (l++sep::r) g∧LL o f (j+1)=chV r (fun i=>g (i+(l.length+1)))∧EE o e (j+1)=EE o e j+l.length+1∧nmS (o j)=lS l:=by
    intro j w ws h1 h2 h3 h4 h5
    refine ⟨nmC (o j),fun i=>f (i+shO o j),32,lineFrom ws,nm_word _,.inl rfl,?_,?_,h5,rfl⟩
    · unfold LL
      rw [h1,h4]
      cases ws with
      | nil=>exact absurd rfl h2
      | cons x xs=>rfl
    · unfold LL
      rw [h3]
      congr 1
      funext i
      show f (i+(shO o j+((nmC (o j)).length+1)))=f (i+((nmC (o j)).length+1)+shO o j)
      congr 1;omega
  match j,hj with
  | 0,_=>exact .inl (step 0 _ _ rfl (by simp) rfl rfl rfl)
  | 1,_=>exact .inl (step 1 _ _ rfl (by simp) rfl rfl rfl)
  | 2,_=>exact .inl (step 2 _ _ rfl (by simp) rfl rfl rfl)
  | 3,_=>exact .inl (step 3 _ _ rfl (by simp) rfl rfl rfl)
  | 4,_=>exact .inl (step 4 _ _ rfl (by simp) rfl rfl rfl)
  | 5,_=>exact .inr ⟨nmC (o 5),_,nm_word _,rfl,rfl,rfl,rfl⟩
noncomputable def lf (W o:Nat→Nat)(j:Nat):Tx:=(W (o j),46::10::nmC (o j))
theorem glued_line (o:Nat→Nat):Builtin.Str.glued ⟨#[32]⟩ [nmS (o 0),nmS (o 1),nmS (o 2),nmS (o 3),nmS (o 4),nmS (o 5)]=lS (lineC o):=by
  refine str_ext ?_
  show ((nmS (o 0)).cps++#[32]++(nmS (o 1)).cps++#[32]++(nmS (o 2)).cps++#[32]++(nmS (o 3)).cps++#[32]++(nmS (o 4)).cps++#[32]++(nmS (o 5)).cps).toList=lineFrom (wsO o)
  have h:∀ k,(nmS k).cps.toList=nmC k:=fun _=>rfl
  simp only [Array.toList_append,h]
  unfold wsO
  simp only [lineFrom,List.append_assoc,List.cons_append,List.nil_append]
noncomputable def argOf:Expr→Expr
  | .Call _ (a::_) _ _=>a
  | _=>default
noncomputable def lwC2:Expr:=argOf (argOf (argOf (argOf (asgE (stOf 3)))))
noncomputable def lwFor:Expr×List Stmt:=forOf (stOf 5)
noncomputable def X_addR (x:Str)(t:Nat)(y:Str)(u:Nat)(z:Str):Spec:=X_tok (.builtin "str.__add__" ⟨[.str x t,.str y u],[]⟩) (fun t=>.str z t)
theorem ok_addR {w:World}{x y z:Str}{t u:Nat}(hx:x.length≠0)(hy:y.length≠0)(hz:x.cps.toList++y.cps.toList=z.cps.toList)(hl:z.length≤sizeLine):(X_addR x t y u z).Ok w:=by
  have e:x++y=z:=str_ext (by rw [cps_append];exact hz)
  have:=ok_add (w:=w) (x:=x) (y:=y) (t:=t) (u:=u) hx hy (by rw [e];exact hl)
  unfold X_add at this
  rw [e] at this
  exact this
theorem ok_mulN {w:World}{n t u:Nat}(h0:1≤n)(hl:n≤30):(X_mul ((n:Nat):Int) t u).Ok w:=ok_mul (by omega) (by have:=sizeLine_eq;omega)
end
section
open PySem PySem.W PySem.W.X PySem.Spec PySem.Calls
set_option maxHeartbeats 0
noncomputable def X_nmo (Pw:Params)(o ot:Nat→Nat)(oe:Nat)(nt:Nat→Nat)(fr:Nat):Spec:={ n0:=6,k:=0,nt:=7,d:=400,code:=fun J=>.compLoop lwC2 0 (.ref (J 1)) (.ref (J 2)) (cEnv (lwF fr) lwC2 (J 0) [(sNames,J 3)]),pre:=fun J=>[dic [] 0,liN (.ref (J 5)) (.int 0 0),lst [] 0,cellO (.ref (J 4)),lst (strValues (nmV nt)) 0,ro (oI o ot) oe],res:=fun J Z=>.ok .next,post:=fun J Z=>[dic [⟨hsh Pw sKk,.str sKk (Z 0),.int (o 5:Nat) (ot 5)⟩] 1,liN .none (.int 6 0),lst [.str (nmS (o 0)) (Z 1),.str (nmS (o 1)) (Z 2),.str (nmS (o 2)) (Z 3),.str (nmS (o 3)) (Z 4),.str (nmS (o 4)) (Z 5),.str (nmS (o 5)) (Z 6)] 6,cellO (.ref (J 4)),lst (strValues (nmV nt)) 0,ro (oI o ot) oe],new:=fun J Z=>[] }
noncomputable def nmo_hs (b1 b2:Bool):List Nat:=[2,2,2,2,6,2,2,1,1,4,1,5,5,5,5,3,3,3,3,2,2,2,2,6,2,2,1,1,4,1,5,5,5,5,3,3,3,3,2,2,2,2,6,2,2,1,1,4,1,5,5,5,5,3,3,3,3,2,2,2,2,6,2,2,1,1,4,1,5,5,5,5,3,3,3,3,2,2,2,2,6,2,2,1,1,4,1,5,5,5,5,3,3,3,3,2,2,2,2,6,2,2,1,1,4,1,5,5,5,5,3,3,3,3,2,2,2,2,6,2,2,8]
noncomputable def nmo_cs (Pw:Params)(o ot:Nat→Nat)(oe:Nat)(nt:Nat→Nat)(fr:Nat)(b1 b2:Bool):List Ev:=[evX (fun J Z=>X_getT (nmV nt) 0 ((o 0:Nat):Int) (ot 0) (nmS (o 0))) [4] 3 6 1,evX (fun J Z=>X_getT (nmV nt) 0 ((o 1:Nat):Int) (ot 1) (nmS (o 1))) [4] 6 6 3,evX (fun J Z=>X_getT (nmV nt) 0 ((o 2:Nat):Int) (ot 2) (nmS (o 2))) [4] 6 6 5,evX (fun J Z=>X_getT (nmV nt) 0 ((o 3:Nat):Int) (ot 3) (nmS (o 3))) [4] 6 6 7,evX (fun J Z=>X_getT (nmV nt) 0 ((o 4:Nat):Int) (ot 4) (nmS (o 4))) [4] 6 6 9,evX (fun J Z=>X_getT (nmV nt) 0 ((o 5:Nat):Int) (ot 5) (nmS (o 5))) [4] 6 6 11]
theorem run_nmo (o ot:Nat→Nat)(oe:Nat)(nt:Nat→Nat)(fr:Nat)(Pw:Params):∀ (b1 b2:Bool) (J Z:Nu),RD (X_nmo Pw o ot oe nt fr) Pw b1 b2 244 (nmo_hs b1 b2) (nmo_cs Pw o ot oe nt fr b1 b2) [] [0,1,3,5,7,9,11] J Z
  | true,b2,J,Z=>by kernel_rfl
  | false,b2,J,Z=>by kernel_rfl
theorem ok_nmo (w:World){o ot:Nat→Nat}{oe:Nat}{nt:Nat→Nat}{fr:Nat}{W:Nat→Nat}(h:OOk W o):(X_nmo w.params o ot oe nt fr).Ok w :=
  ok_of_run (hs:=nmo_hs (row1 w) (row2 w)) (cs:=nmo_cs w.params o ot oe nt fr (row1 w) (row2 w)) (ns:=[]) (ts:=[0,1,3,5,7,9,11]) (vc (fun J Z=>ok_getT (by omega) (by have:=h.o 0 (by decide);omega) (nm_get (h.o 0 (by decide)))) rfl (vc (fun J Z=>ok_getT (by omega) (by have:=h.o 1 (by decide);omega) (nm_get (h.o 1 (by decide)))) rfl (vc (fun J Z=>ok_getT (by omega) (by have:=h.o 2 (by decide);omega) (nm_get (h.o 2 (by decide)))) rfl (vc (fun J Z=>ok_getT (by omega) (by have:=h.o 3 (by decide);omega) (nm_get (h.o 3 (by decide)))) rfl (vc (fun J Z=>ok_getT (by omega) (by have:=h.o 4 (by decide);omega) (nm_get (h.o 4 (by decide)))) rfl (vc (fun J Z=>ok_getT (by omega) (by have:=h.o 5 (by decide);omega) (nm_get (h.o 5 (by decide)))) rfl (va_nil))))))) rfl rfl (by decide) (show ∀ j∈([]:List Nat),6≤j by decide) (run_nmo o ot oe nt fr w.params (row1 w) (row2 w))
theorem nm_ne (k:Nat):(nmS k).length≠0:=by
  have:=(nm_word k).ne
  intro z
  exact this (List.length_eq_zero_iff.mp (by rw [← z];exact (lS_len _).symm))
theorem dn_small (k:Nat):(lS (46::10::nmC k)).length≤sizeLine:=by
  have h1:=nm_len k
  have h2:=sizeLine_eq
  rw [lS_len]
  simp only [List.length_cons]
  omega
noncomputable def X_f6 (Pw:Params)(W o ot:Nat→Nat)(oe:Nat)(wt:Nat→Nat)(we:Nat)(p:SP)(n:Int)(tn:Nat)(f:Nat→Nat)(e0 ve:Nat)(dh:Int)(dt du:Nat)(ce ft vv:Nat→Nat):Spec:={ n0:=16,k:=0,nt:=0,d:=384,code:=fun J=>.forLoop lwFor.1 (.ref (J 3)) lwFor.2 [] (lwE (pick [0,0,0,J 0,ce 4,ce 5,ce 6,ce 7,ce 8,ce 9,J 1] 0)),pre:=fun J=>([frm [⟨hsh Pw sOrder,.str sOrder (ft 0),.ref (J 4)⟩,⟨hsh Pw sLine,.str sLine (ft 1),.ref (J 5)⟩,⟨hsh Pw sPile,.str sPile (ft 2),.ref (J 14)⟩,⟨hsh Pw sKk,.str sKk (ft 3),.int (o 5:Nat) (ot 5)⟩] 4,cellO (.ref (J 2)),ro (wI W wt) we,liN (.ref (J 4)) (.int 6 0),ro (oI o ot) oe]++strm p J 5 (.int n tn) (J 13) (LL o f 6) (EE o e0 6)++[lst [] 0,accO (J 15) [.ref (vv 0),.ref (vv 1),.ref (vv 2),.ref (vv 3),.ref (vv 4),.ref (vv 5)] (ve+6),accD dh dt du]),res:=fun J Z=>.ok .next,post:=fun J Z=>([frm [⟨hsh Pw sOrder,.str sOrder (ft 0),.ref (J 4)⟩,⟨hsh Pw sLine,.str sLine (ft 1),.ref (J 5)⟩,⟨hsh Pw sPile,.str sPile (ft 2),.ref (J 14)⟩,⟨hsh Pw sKk,.str sKk (ft 3),.int (o 5:Nat) (ot 5)⟩] 4,cellO (.ref (J 2)),ro (wI W wt) we,liN .none (.int 6 0),ro (oI o ot) oe]++strm p J 5 (.int n tn) (J 13) (LL o f 6) (EE o e0 6)++[lst [] 0,accO (J 15) [.ref (vv 0),.ref (vv 1),.ref (vv 2),.ref (vv 3),.ref (vv 4),.ref (vv 5)] (ve+6),accD dh dt du]),new:=fun J Z=>[] }
noncomputable def f6_hs (b1 b2:Bool):List Nat:=[4,4,4,4,5,4,4,18]
noncomputable def f6_cs (Pw:Params)(W o ot:Nat→Nat)(oe:Nat)(wt:Nat→Nat)(we:Nat)(p:SP)(n:Int)(tn:Nat)(f:Nat→Nat)(e0 ve:Nat)(dh:Int)(dt du:Nat)(ce ft vv:Nat→Nat)(b1 b2:Bool):List Ev:=[]
theorem run_f6 (W o ot:Nat→Nat)(oe:Nat)(wt:Nat→Nat)(we:Nat)(p:SP)(n:Int)(tn:Nat)(f:Nat→Nat)(e0 ve:Nat)(dh:Int)(dt du:Nat)(ce ft vv:Nat→Nat)(Pw:Params):∀ (b1 b2:Bool) (J Z:Nu),RD (X_f6 Pw W o ot oe wt we p n tn f e0 ve dh dt du ce ft vv) Pw b1 b2 23 (f6_hs b1 b2) (f6_cs Pw W o ot oe wt we p n tn f e0 ve dh dt du ce ft vv b1 b2) [] [] J Z
  | true,b2,J,Z=>by kernel_rfl
  | false,b2,J,Z=>by kernel_rfl
theorem ok_f6 (w:World){W o ot:Nat→Nat}{oe:Nat}{wt:Nat→Nat}{we:Nat}{p:SP}{n:Int}{tn:Nat}{f:Nat→Nat}{e0 ve:Nat}{dh:Int}{dt du:Nat}{ce ft vv:Nat→Nat}(h:OOk W o):(X_f6 w.params W o ot oe wt we p n tn f e0 ve dh dt du ce ft vv).Ok w :=
  ok_of_run (hs:=f6_hs (row1 w) (row2 w)) (cs:=f6_cs w.params W o ot oe wt we p n tn f e0 ve dh dt du ce ft vv (row1 w) (row2 w)) (ns:=[]) (ts:=[]) (va_nil) rfl rfl (by decide) (show ∀ j∈([]:List Nat),16≤j by decide) (run_f6 W o ot oe wt we p n tn f e0 ve dh dt du ce ft vv w.params (row1 w) (row2 w))
noncomputable def X_f5 (Pw:Params)(W o ot:Nat→Nat)(oe:Nat)(wt:Nat→Nat)(we:Nat)(p:SP)(n:Int)(tn:Nat)(f:Nat→Nat)(e0 ve:Nat)(dh:Int)(dt du:Nat)(ce ft vv:Nat→Nat):Spec:={ n0:=16,k:=1,nt:=2,d:=384,code:=fun J=>.forLoop lwFor.1 (.ref (J 3)) lwFor.2 [] (lwE (pick [0,0,0,J 0,ce 4,ce 5,ce 6,ce 7,ce 8,ce 9,J 1] 0)),pre:=fun J=>([frm [⟨hsh Pw sOrder,.str sOrder (ft 0),.ref (J 4)⟩,⟨hsh Pw sLine,.str sLine (ft 1),.ref (J 5)⟩,⟨hsh Pw sPile,.str sPile (ft 2),.ref (J 14)⟩,⟨hsh Pw sKk,.str sKk (ft 3),.int (o 4:Nat) (ot 4)⟩] 4,cellO (.ref (J 2)),ro (wI W wt) we,liN (.ref (J 4)) (.int 5 0),ro (oI o ot) oe]++strm p J 5 (.int n tn) (J 13) (LL o f 5) (EE o e0 5)++[lst [] 0,accO (J 15) [.ref (vv 0),.ref (vv 1),.ref (vv 2),.ref (vv 3),.ref (vv 4)] (ve+5),accD dh dt du]),res:=fun J Z=>.ok .next,post:=fun J Z=>([frm [⟨hsh Pw sOrder,.str sOrder (ft 0),.ref (J 4)⟩,⟨hsh Pw sLine,.str sLine (ft 1),.ref (J 5)⟩,⟨hsh Pw sPile,.str sPile (ft 2),.ref (J 14)⟩,⟨hsh Pw sKk,.str sKk (ft 3),.int (o 5:Nat) (ot 5)⟩] 4,cellO (.ref (J 2)),ro (wI W wt) we,liN .none (.int 6 0),ro (oI o ot) oe]++strm p J 5 (.int n tn) (J 13) (LL o f 6) (EE o e0 6)++[lst [] 0,accO (J 15) [.ref (vv 0),.ref (vv 1),.ref (vv 2),.ref (vv 3),.ref (vv 4),.ref (J 16)] (ve+6),accD dh dt du]),new:=fun J Z=>[tupO [.str (sp (W (o 5))) (Z 0),.str (lS (46::10::nmC (o 5))) (Z 1)]] }
noncomputable def f5_hs (b1 b2:Bool):List Nat:=[4,4,4,4,5,4,4,1,1,1,15,0,0,0,15,0,0,0,15,0,0,0,0,15,16,2,1,3,3,3,3,1,6,0,0,0,6,0,0,0,6,0,0,0,0,6,7,0,0]
noncomputable def f5_cs (Pw:Params)(W o ot:Nat→Nat)(oe:Nat)(wt:Nat→Nat)(we:Nat)(p:SP)(n:Int)(tn:Nat)(f:Nat→Nat)(e0 ve:Nat)(dh:Int)(dt du:Nat)(ce ft vv:Nat→Nat)(b1 b2:Bool):List Ev:=[evX (fun J Z=>X_getN (wI W wt) we ((o 5:Nat):Int) (ot 5) ((W (o 5):Nat):Int)) [2] 3 16 2,evX (fun J Z=>X_mul ((W (o 5):Nat):Int) (Z 1) (Z 2)) [] 3 16 3,evX (fun J Z=>X_gtA p n tn (EE o e0 5) 0 (LL o f 5) (LL o f 6) (EE o e0 6) (nmS (o 5))) [5,6,7,8,9,10,11,12,13] 0 16 5,evX (fun J Z=>X_addR ⟨#[46,10]⟩ (Z 4) (nmS (o 5)) (Z 5) (lS (46::10::nmC (o 5)))) [] 1 16 6,evX (fun J Z=>X_apush dh dt du [.ref (vv 0),.ref (vv 1),.ref (vv 2),.ref (vv 3),.ref (vv 4)] (ve+5) (lS (46::10::nmC (o 5))) (Z 6) (sp (W (o 5))) (Z 3)) [14,15] 0 16 7,evX (fun J Z=>X_f6 Pw W o ot oe wt we p n tn f e0 ve dh dt du ce (pick [ft 0,ft 1,ft 2,ft 3] 0) (pick [vv 0,vv 1,vv 2,vv 3,vv 4,J 16] 0)) [0,1,2,3,4,5,6,7,8,9,10,11,12,13,14,15] 0 17 7]
theorem run_f5 (W o ot:Nat→Nat)(oe:Nat)(wt:Nat→Nat)(we:Nat)(p:SP)(n:Int)(tn:Nat)(f:Nat→Nat)(e0 ve:Nat)(dh:Int)(dt du:Nat)(ce ft vv:Nat→Nat)(Pw:Params):∀ (b1 b2:Bool) (J Z:Nu),RD (X_f5 Pw W o ot oe wt we p n tn f e0 ve dh dt du ce ft vv) Pw b1 b2 96 (f5_hs b1 b2) (f5_cs Pw W o ot oe wt we p n tn f e0 ve dh dt du ce ft vv b1 b2) [16] [3,6] J Z
  | true,b2,J,Z=>by kernel_rfl
  | false,b2,J,Z=>by kernel_rfl
theorem ok_f5 (w:World){W o ot:Nat→Nat}{oe:Nat}{wt:Nat→Nat}{we:Nat}{p:SP}{n:Int}{tn:Nat}{f:Nat→Nat}{e0 ve:Nat}{dh:Int}{dt du:Nat}{ce ft vv:Nat→Nat}(h:OOk W o):(X_f5 w.params W o ot oe wt we p n tn f e0 ve dh dt du ce ft vv).Ok w :=
  ok_of_run (hs:=f5_hs (row1 w) (row2 w)) (cs:=f5_cs w.params W o ot oe wt we p n tn f e0 ve dh dt du ce ft vv (row1 w) (row2 w)) (ns:=[16]) (ts:=[3,6]) (vc (fun J Z=>ok_getN (by omega) (by have:=h.o 5 (by decide);omega) (wI_get (h.o 5 (by decide)))) rfl (vc (fun J Z=>ok_mulN (h.w _ (h.o 5 (by decide))).1 (h.w _ (h.o 5 (by decide))).2) rfl (vc (fun J Z=>ok_gtA (line_cut o f e0 5 (by decide))) rfl (vc (fun J Z=>ok_addR (by decide) (nm_ne _) rfl (dn_small _)) rfl (vc (fun J Z=>ok_apush w (by have:=sizeLine_eq;simp only [List.length_cons,List.length_nil];omega)) rfl (vc (fun J Z=>ok_f6 w h) rfl (va_nil))))))) rfl rfl (by decide) (show ∀ j∈([16]:List Nat),16≤j by decide) (run_f5 W o ot oe wt we p n tn f e0 ve dh dt du ce ft vv w.params (row1 w) (row2 w))
noncomputable def X_f4 (Pw:Params)(W o ot:Nat→Nat)(oe:Nat)(wt:Nat→Nat)(we:Nat)(p:SP)(n:Int)(tn:Nat)(f:Nat→Nat)(e0 ve:Nat)(dh:Int)(dt du:Nat)(ce ft vv:Nat→Nat):Spec:={ n0:=16,k:=2,nt:=4,d:=384,code:=fun J=>.forLoop lwFor.1 (.ref (J 3)) lwFor.2 [] (lwE (pick [0,0,0,J 0,ce 4,ce 5,ce 6,ce 7,ce 8,ce 9,J 1] 0)),pre:=fun J=>([frm [⟨hsh Pw sOrder,.str sOrder (ft 0),.ref (J 4)⟩,⟨hsh Pw sLine,.str sLine (ft 1),.ref (J 5)⟩,⟨hsh Pw sPile,.str sPile (ft 2),.ref (J 14)⟩,⟨hsh Pw sKk,.str sKk (ft 3),.int (o 3:Nat) (ot 3)⟩] 4,cellO (.ref (J 2)),ro (wI W wt) we,liN (.ref (J 4)) (.int 4 0),ro (oI o ot) oe]++strm p J 5 (.int n tn) (J 13) (LL o f 4) (EE o e0 4)++[lst [] 0,accO (J 15) [.ref (vv 0),.ref (vv 1),.ref (vv 2),.ref (vv 3)] (ve+4),accD dh dt du]),res:=fun J Z=>.ok .next,post:=fun J Z=>([frm [⟨hsh Pw sOrder,.str sOrder (ft 0),.ref (J 4)⟩,⟨hsh Pw sLine,.str sLine (ft 1),.ref (J 5)⟩,⟨hsh Pw sPile,.str sPile (ft 2),.ref (J 14)⟩,⟨hsh Pw sKk,.str sKk (ft 3),.int (o 5:Nat) (ot 5)⟩] 4,cellO (.ref (J 2)),ro (wI W wt) we,liN .none (.int 6 0),ro (oI o ot) oe]++strm p J 5 (.int n tn) (J 13) (LL o f 6) (EE o e0 6)++[lst [] 0,accO (J 15) [.ref (vv 0),.ref (vv 1),.ref (vv 2),.ref (vv 3),.ref (J 16),.ref (J 17)] (ve+6),accD dh dt du]),new:=fun J Z=>[tupO [.str (sp (W (o 4))) (Z 0),.str (lS (46::10::nmC (o 4))) (Z 1)],tupO [.str (sp (W (o 5))) (Z 2),.str (lS (46::10::nmC (o 5))) (Z 3)]] }
noncomputable def f4_hs (b1 b2:Bool):List Nat:=[4,4,4,4,5,4,4,1,1,1,15,0,0,0,15,0,0,0,15,0,0,0,0,15,16,2,1,3,3,3,3,1,6,0,0,0,6,0,0,0,6,0,0,0,0,6,7,0,0]
noncomputable def f4_cs (Pw:Params)(W o ot:Nat→Nat)(oe:Nat)(wt:Nat→Nat)(we:Nat)(p:SP)(n:Int)(tn:Nat)(f:Nat→Nat)(e0 ve:Nat)(dh:Int)(dt du:Nat)(ce ft vv:Nat→Nat)(b1 b2:Bool):List Ev:=[evX (fun J Z=>X_getN (wI W wt) we ((o 4:Nat):Int) (ot 4) ((W (o 4):Nat):Int)) [2] 3 16 2,evX (fun J Z=>X_mul ((W (o 4):Nat):Int) (Z 1) (Z 2)) [] 3 16 3,evX (fun J Z=>X_gtA p n tn (EE o e0 4) 0 (LL o f 4) (LL o f 5) (EE o e0 5) (nmS (o 4))) [5,6,7,8,9,10,11,12,13] 0 16 5,evX (fun J Z=>X_addR ⟨#[46,10]⟩ (Z 4) (nmS (o 4)) (Z 5) (lS (46::10::nmC (o 4)))) [] 1 16 6,evX (fun J Z=>X_apush dh dt du [.ref (vv 0),.ref (vv 1),.ref (vv 2),.ref (vv 3)] (ve+4) (lS (46::10::nmC (o 4))) (Z 6) (sp (W (o 4))) (Z 3)) [14,15] 0 16 7,evX (fun J Z=>X_f5 Pw W o ot oe wt we p n tn f e0 ve dh dt du ce (pick [ft 0,ft 1,ft 2,ft 3] 0) (pick [vv 0,vv 1,vv 2,vv 3,J 16] 0)) [0,1,2,3,4,5,6,7,8,9,10,11,12,13,14,15] 0 17 7]
theorem run_f4 (W o ot:Nat→Nat)(oe:Nat)(wt:Nat→Nat)(we:Nat)(p:SP)(n:Int)(tn:Nat)(f:Nat→Nat)(e0 ve:Nat)(dh:Int)(dt du:Nat)(ce ft vv:Nat→Nat)(Pw:Params):∀ (b1 b2:Bool) (J Z:Nu),RD (X_f4 Pw W o ot oe wt we p n tn f e0 ve dh dt du ce ft vv) Pw b1 b2 96 (f4_hs b1 b2) (f4_cs Pw W o ot oe wt we p n tn f e0 ve dh dt du ce ft vv b1 b2) [16,17] [3,6,7,8] J Z
  | true,b2,J,Z=>by kernel_rfl
  | false,b2,J,Z=>by kernel_rfl
theorem ok_f4 (w:World){W o ot:Nat→Nat}{oe:Nat}{wt:Nat→Nat}{we:Nat}{p:SP}{n:Int}{tn:Nat}{f:Nat→Nat}{e0 ve:Nat}{dh:Int}{dt du:Nat}{ce ft vv:Nat→Nat}(h:OOk W o):(X_f4 w.params W o ot oe wt we p n tn f e0 ve dh dt du ce ft vv).Ok w :=
  ok_of_run (hs:=f4_hs (row1 w) (row2 w)) (cs:=f4_cs w.params W o ot oe wt we p n tn f e0 ve dh dt du ce ft vv (row1 w) (row2 w)) (ns:=[16,17]) (ts:=[3,6,7,8]) (vc (fun J Z=>ok_getN (by omega) (by have:=h.o 4 (by decide);omega) (wI_get (h.o 4 (by decide)))) rfl (vc (fun J Z=>ok_mulN (h.w _ (h.o 4 (by decide))).1 (h.w _ (h.o 4 (by decide))).2) rfl (vc (fun J Z=>ok_gtA (line_cut o f e0 4 (by decide))) rfl (vc (fun J Z=>ok_addR (by decide) (nm_ne _) rfl (dn_small _)) rfl (vc (fun J Z=>ok_apush w (by have:=sizeLine_eq;simp only [List.length_cons,List.length_nil];omega)) rfl (vc (fun J Z=>ok_f5 w h) rfl (va_nil))))))) rfl rfl (by decide) (show ∀ j∈([16,17]:List Nat),16≤j by decide) (run_f4 W o ot oe wt we p n tn f e0 ve dh dt du ce ft vv w.params (row1 w) (row2 w))
noncomputable def X_f3 (Pw:Params)(W o ot:Nat→Nat)(oe:Nat)(wt:Nat→Nat)(we:Nat)(p:SP)(n:Int)(tn:Nat)(f:Nat→Nat)(e0 ve:Nat)(dh:Int)(dt du:Nat)(ce ft vv:Nat→Nat):Spec:={ n0:=16,k:=3,nt:=6,d:=384,code:=fun J=>.forLoop lwFor.1 (.ref (J 3)) lwFor.2 [] (lwE (pick [0,0,0,J 0,ce 4,ce 5,ce 6,ce 7,ce 8,ce 9,J 1] 0)),pre:=fun J=>([frm [⟨hsh Pw sOrder,.str sOrder (ft 0),.ref (J 4)⟩,⟨hsh Pw sLine,.str sLine (ft 1),.ref (J 5)⟩,⟨hsh Pw sPile,.str sPile (ft 2),.ref (J 14)⟩,⟨hsh Pw sKk,.str sKk (ft 3),.int (o 2:Nat) (ot 2)⟩] 4,cellO (.ref (J 2)),ro (wI W wt) we,liN (.ref (J 4)) (.int 3 0),ro (oI o ot) oe]++strm p J 5 (.int n tn) (J 13) (LL o f 3) (EE o e0 3)++[lst [] 0,accO (J 15) [.ref (vv 0),.ref (vv 1),.ref (vv 2)] (ve+3),accD dh dt du]),res:=fun J Z=>.ok .next,post:=fun J Z=>([frm [⟨hsh Pw sOrder,.str sOrder (ft 0),.ref (J 4)⟩,⟨hsh Pw sLine,.str sLine (ft 1),.ref (J 5)⟩,⟨hsh Pw sPile,.str sPile (ft 2),.ref (J 14)⟩,⟨hsh Pw sKk,.str sKk (ft 3),.int (o 5:Nat) (ot 5)⟩] 4,cellO (.ref (J 2)),ro (wI W wt) we,liN .none (.int 6 0),ro (oI o ot) oe]++strm p J 5 (.int n tn) (J 13) (LL o f 6) (EE o e0 6)++[lst [] 0,accO (J 15) [.ref (vv 0),.ref (vv 1),.ref (vv 2),.ref (J 16),.ref (J 17),.ref (J 18)] (ve+6),accD dh dt du]),new:=fun J Z=>[tupO [.str (sp (W (o 3))) (Z 0),.str (lS (46::10::nmC (o 3))) (Z 1)],tupO [.str (sp (W (o 4))) (Z 2),.str (lS (46::10::nmC (o 4))) (Z 3)],tupO [.str (sp (W (o 5))) (Z 4),.str (lS (46::10::nmC (o 5))) (Z 5)]] }
noncomputable def f3_hs (b1 b2:Bool):List Nat:=[4,4,4,4,5,4,4,1,1,1,15,0,0,0,15,0,0,0,15,0,0,0,0,15,16,2,1,3,3,3,3,1,6,0,0,0,6,0,0,0,6,0,0,0,0,6,7,0,0]
noncomputable def f3_cs (Pw:Params)(W o ot:Nat→Nat)(oe:Nat)(wt:Nat→Nat)(we:Nat)(p:SP)(n:Int)(tn:Nat)(f:Nat→Nat)(e0 ve:Nat)(dh:Int)(dt du:Nat)(ce ft vv:Nat→Nat)(b1 b2:Bool):List Ev:=[evX (fun J Z=>X_getN (wI W wt) we ((o 3:Nat):Int) (ot 3) ((W (o 3):Nat):Int)) [2] 3 16 2,evX (fun J Z=>X_mul ((W (o 3):Nat):Int) (Z 1) (Z 2)) [] 3 16 3,evX (fun J Z=>X_gtA p n tn (EE o e0 3) 0 (LL o f 3) (LL o f 4) (EE o e0 4) (nmS (o 3))) [5,6,7,8,9,10,11,12,13] 0 16 5,evX (fun J Z=>X_addR ⟨#[46,10]⟩ (Z 4) (nmS (o 3)) (Z 5) (lS (46::10::nmC (o 3)))) [] 1 16 6,evX (fun J Z=>X_apush dh dt du [.ref (vv 0),.ref (vv 1),.ref (vv 2)] (ve+3) (lS (46::10::nmC (o 3))) (Z 6) (sp (W (o 3))) (Z 3)) [14,15] 0 16 7,evX (fun J Z=>X_f4 Pw W o ot oe wt we p n tn f e0 ve dh dt du ce (pick [ft 0,ft 1,ft 2,ft 3] 0) (pick [vv 0,vv 1,vv 2,J 16] 0)) [0,1,2,3,4,5,6,7,8,9,10,11,12,13,14,15] 0 17 7]
theorem run_f3 (W o ot:Nat→Nat)(oe:Nat)(wt:Nat→Nat)(we:Nat)(p:SP)(n:Int)(tn:Nat)(f:Nat→Nat)(e0 ve:Nat)(dh:Int)(dt du:Nat)(ce ft vv:Nat→Nat)(Pw:Params):∀ (b1 b2:Bool) (J Z:Nu),RD (X_f3 Pw W o ot oe wt we p n tn f e0 ve dh dt du ce ft vv) Pw b1 b2 96 (f3_hs b1 b2) (f3_cs Pw W o ot oe wt we p n tn f e0 ve dh dt du ce ft vv b1 b2) [16,17,18] [3,6,7,8,9,10] J Z
  | true,b2,J,Z=>by kernel_rfl
  | false,b2,J,Z=>by kernel_rfl
theorem ok_f3 (w:World){W o ot:Nat→Nat}{oe:Nat}{wt:Nat→Nat}{we:Nat}{p:SP}{n:Int}{tn:Nat}{f:Nat→Nat}{e0 ve:Nat}{dh:Int}{dt du:Nat}{ce ft vv:Nat→Nat}(h:OOk W o):(X_f3 w.params W o ot oe wt we p n tn f e0 ve dh dt du ce ft vv).Ok w :=
  ok_of_run (hs:=f3_hs (row1 w) (row2 w)) (cs:=f3_cs w.params W o ot oe wt we p n tn f e0 ve dh dt du ce ft vv (row1 w) (row2 w)) (ns:=[16,17,18]) (ts:=[3,6,7,8,9,10]) (vc (fun J Z=>ok_getN (by omega) (by have:=h.o 3 (by decide);omega) (wI_get (h.o 3 (by decide)))) rfl (vc (fun J Z=>ok_mulN (h.w _ (h.o 3 (by decide))).1 (h.w _ (h.o 3 (by decide))).2) rfl (vc (fun J Z=>ok_gtA (line_cut o f e0 3 (by decide))) rfl (vc (fun J Z=>ok_addR (by decide) (nm_ne _) rfl (dn_small _)) rfl (vc (fun J Z=>ok_apush w (by have:=sizeLine_eq;simp only [List.length_cons,List.length_nil];omega)) rfl (vc (fun J Z=>ok_f4 w h) rfl (va_nil))))))) rfl rfl (by decide) (show ∀ j∈([16,17,18]:List Nat),16≤j by decide) (run_f3 W o ot oe wt we p n tn f e0 ve dh dt du ce ft vv w.params (row1 w) (row2 w))
noncomputable def X_f2 (Pw:Params)(W o ot:Nat→Nat)(oe:Nat)(wt:Nat→Nat)(we:Nat)(p:SP)(n:Int)(tn:Nat)(f:Nat→Nat)(e0 ve:Nat)(dh:Int)(dt du:Nat)(ce ft vv:Nat→Nat):Spec:={ n0:=16,k:=4,nt:=8,d:=384,code:=fun J=>.forLoop lwFor.1 (.ref (J 3)) lwFor.2 [] (lwE (pick [0,0,0,J 0,ce 4,ce 5,ce 6,ce 7,ce 8,ce 9,J 1] 0)),pre:=fun J=>([frm [⟨hsh Pw sOrder,.str sOrder (ft 0),.ref (J 4)⟩,⟨hsh Pw sLine,.str sLine (ft 1),.ref (J 5)⟩,⟨hsh Pw sPile,.str sPile (ft 2),.ref (J 14)⟩,⟨hsh Pw sKk,.str sKk (ft 3),.int (o 1:Nat) (ot 1)⟩] 4,cellO (.ref (J 2)),ro (wI W wt) we,liN (.ref (J 4)) (.int 2 0),ro (oI o ot) oe]++strm p J 5 (.int n tn) (J 13) (LL o f 2) (EE o e0 2)++[lst [] 0,accO (J 15) [.ref (vv 0),.ref (vv 1)] (ve+2),accD dh dt du]),res:=fun J Z=>.ok .next,post:=fun J Z=>([frm [⟨hsh Pw sOrder,.str sOrder (ft 0),.ref (J 4)⟩,⟨hsh Pw sLine,.str sLine (ft 1),.ref (J 5)⟩,⟨hsh Pw sPile,.str sPile (ft 2),.ref (J 14)⟩,⟨hsh Pw sKk,.str sKk (ft 3),.int (o 5:Nat) (ot 5)⟩] 4,cellO (.ref (J 2)),ro (wI W wt) we,liN .none (.int 6 0),ro (oI o ot) oe]++strm p J 5 (.int n tn) (J 13) (LL o f 6) (EE o e0 6)++[lst [] 0,accO (J 15) [.ref (vv 0),.ref (vv 1),.ref (J 16),.ref (J 17),.ref (J 18),.ref (J 19)] (ve+6),accD dh dt du]),new:=fun J Z=>[tupO [.str (sp (W (o 2))) (Z 0),.str (lS (46::10::nmC (o 2))) (Z 1)],tupO [.str (sp (W (o 3))) (Z 2),.str (lS (46::10::nmC (o 3))) (Z 3)],tupO [.str (sp (W (o 4))) (Z 4),.str (lS (46::10::nmC (o 4))) (Z 5)],tupO [.str (sp (W (o 5))) (Z 6),.str (lS (46::10::nmC (o 5))) (Z 7)]] }
noncomputable def f2_hs (b1 b2:Bool):List Nat:=[4,4,4,4,5,4,4,1,1,1,15,0,0,0,15,0,0,0,15,0,0,0,0,15,16,2,1,3,3,3,3,1,6,0,0,0,6,0,0,0,6,0,0,0,0,6,7,0,0]
noncomputable def f2_cs (Pw:Params)(W o ot:Nat→Nat)(oe:Nat)(wt:Nat→Nat)(we:Nat)(p:SP)(n:Int)(tn:Nat)(f:Nat→Nat)(e0 ve:Nat)(dh:Int)(dt du:Nat)(ce ft vv:Nat→Nat)(b1 b2:Bool):List Ev:=[evX (fun J Z=>X_getN (wI W wt) we ((o 2:Nat):Int) (ot 2) ((W (o 2):Nat):Int)) [2] 3 16 2,evX (fun J Z=>X_mul ((W (o 2):Nat):Int) (Z 1) (Z 2)) [] 3 16 3,evX (fun J Z=>X_gtA p n tn (EE o e0 2) 0 (LL o f 2) (LL o f 3) (EE o e0 3) (nmS (o 2))) [5,6,7,8,9,10,11,12,13] 0 16 5,evX (fun J Z=>X_addR ⟨#[46,10]⟩ (Z 4) (nmS (o 2)) (Z 5) (lS (46::10::nmC (o 2)))) [] 1 16 6,evX (fun J Z=>X_apush dh dt du [.ref (vv 0),.ref (vv 1)] (ve+2) (lS (46::10::nmC (o 2))) (Z 6) (sp (W (o 2))) (Z 3)) [14,15] 0 16 7,evX (fun J Z=>X_f3 Pw W o ot oe wt we p n tn f e0 ve dh dt du ce (pick [ft 0,ft 1,ft 2,ft 3] 0) (pick [vv 0,vv 1,J 16] 0)) [0,1,2,3,4,5,6,7,8,9,10,11,12,13,14,15] 0 17 7]
theorem run_f2 (W o ot:Nat→Nat)(oe:Nat)(wt:Nat→Nat)(we:Nat)(p:SP)(n:Int)(tn:Nat)(f:Nat→Nat)(e0 ve:Nat)(dh:Int)(dt du:Nat)(ce ft vv:Nat→Nat)(Pw:Params):∀ (b1 b2:Bool) (J Z:Nu),RD (X_f2 Pw W o ot oe wt we p n tn f e0 ve dh dt du ce ft vv) Pw b1 b2 96 (f2_hs b1 b2) (f2_cs Pw W o ot oe wt we p n tn f e0 ve dh dt du ce ft vv b1 b2) [16,17,18,19] [3,6,7,8,9,10,11,12] J Z
  | true,b2,J,Z=>by kernel_rfl
  | false,b2,J,Z=>by kernel_rfl
theorem ok_f2 (w:World){W o ot:Nat→Nat}{oe:Nat}{wt:Nat→Nat}{we:Nat}{p:SP}{n:Int}{tn:Nat}{f:Nat→Nat}{e0 ve:Nat}{dh:Int}{dt du:Nat}{ce ft vv:Nat→Nat}(h:OOk W o):(X_f2 w.params W o ot oe wt we p n tn f e0 ve dh dt du ce ft vv).Ok w :=
  ok_of_run (hs:=f2_hs (row1 w) (row2 w)) (cs:=f2_cs w.params W o ot oe wt we p n tn f e0 ve dh dt du ce ft vv (row1 w) (row2 w)) (ns:=[16,17,18,19]) (ts:=[3,6,7,8,9,10,11,12]) (vc (fun J Z=>ok_getN (by omega) (by have:=h.o 2 (by decide);omega) (wI_get (h.o 2 (by decide)))) rfl (vc (fun J Z=>ok_mulN (h.w _ (h.o 2 (by decide))).1 (h.w _ (h.o 2 (by decide))).2) rfl (vc (fun J Z=>ok_gtA (line_cut o f e0 2 (by decide))) rfl (vc (fun J Z=>ok_addR (by decide) (nm_ne _) rfl (dn_small _)) rfl (vc (fun J Z=>ok_apush w (by have:=sizeLine_eq;simp only [List.length_cons,List.length_nil];omega)) rfl (vc (fun J Z=>ok_f3 w h) rfl (va_nil))))))) rfl rfl (by decide) (show ∀ j∈([16,17,18,19]:List Nat),16≤j by decide) (run_f2 W o ot oe wt we p n tn f e0 ve dh dt du ce ft vv w.params (row1 w) (row2 w))
noncomputable def X_f1 (Pw:Params)(W o ot:Nat→Nat)(oe:Nat)(wt:Nat→Nat)(we:Nat)(p:SP)(n:Int)(tn:Nat)(f:Nat→Nat)(e0 ve:Nat)(dh:Int)(dt du:Nat)(ce ft vv:Nat→Nat):Spec:={ n0:=16,k:=5,nt:=10,d:=384,code:=fun J=>.forLoop lwFor.1 (.ref (J 3)) lwFor.2 [] (lwE (pick [0,0,0,J 0,ce 4,ce 5,ce 6,ce 7,ce 8,ce 9,J 1] 0)),pre:=fun J=>([frm [⟨hsh Pw sOrder,.str sOrder (ft 0),.ref (J 4)⟩,⟨hsh Pw sLine,.str sLine (ft 1),.ref (J 5)⟩,⟨hsh Pw sPile,.str sPile (ft 2),.ref (J 14)⟩,⟨hsh Pw sKk,.str sKk (ft 3),.int (o 0:Nat) (ot 0)⟩] 4,cellO (.ref (J 2)),ro (wI W wt) we,liN (.ref (J 4)) (.int 1 0),ro (oI o ot) oe]++strm p J 5 (.int n tn) (J 13) (LL o f 1) (EE o e0 1)++[lst [] 0,accO (J 15) [.ref (vv 0)] (ve+1),accD dh dt du]),res:=fun J Z=>.ok .next,post:=fun J Z=>([frm [⟨hsh Pw sOrder,.str sOrder (ft 0),.ref (J 4)⟩,⟨hsh Pw sLine,.str sLine (ft 1),.ref (J 5)⟩,⟨hsh Pw sPile,.str sPile (ft 2),.ref (J 14)⟩,⟨hsh Pw sKk,.str sKk (ft 3),.int (o 5:Nat) (ot 5)⟩] 4,cellO (.ref (J 2)),ro (wI W wt) we,liN .none (.int 6 0),ro (oI o ot) oe]++strm p J 5 (.int n tn) (J 13) (LL o f 6) (EE o e0 6)++[lst [] 0,accO (J 15) [.ref (vv 0),.ref (J 16),.ref (J 17),.ref (J 18),.ref (J 19),.ref (J 20)] (ve+6),accD dh dt du]),new:=fun J Z=>[tupO [.str (sp (W (o 1))) (Z 0),.str (lS (46::10::nmC (o 1))) (Z 1)],tupO [.str (sp (W (o 2))) (Z 2),.str (lS (46::10::nmC (o 2))) (Z 3)],tupO [.str (sp (W (o 3))) (Z 4),.str (lS (46::10::nmC (o 3))) (Z 5)],tupO [.str (sp (W (o 4))) (Z 6),.str (lS (46::10::nmC (o 4))) (Z 7)],tupO [.str (sp (W (o 5))) (Z 8),.str (lS (46::10::nmC (o 5))) (Z 9)]] }
noncomputable def f1_hs (b1 b2:Bool):List Nat:=[4,4,4,4,5,4,4,1,1,1,15,0,0,0,15,0,0,0,15,0,0,0,0,15,16,2,1,3,3,3,3,1,6,0,0,0,6,0,0,0,6,0,0,0,0,6,7,0,0]
noncomputable def f1_cs (Pw:Params)(W o ot:Nat→Nat)(oe:Nat)(wt:Nat→Nat)(we:Nat)(p:SP)(n:Int)(tn:Nat)(f:Nat→Nat)(e0 ve:Nat)(dh:Int)(dt du:Nat)(ce ft vv:Nat→Nat)(b1 b2:Bool):List Ev:=[evX (fun J Z=>X_getN (wI W wt) we ((o 1:Nat):Int) (ot 1) ((W (o 1):Nat):Int)) [2] 3 16 2,evX (fun J Z=>X_mul ((W (o 1):Nat):Int) (Z 1) (Z 2)) [] 3 16 3,evX (fun J Z=>X_gtA p n tn (EE o e0 1) 0 (LL o f 1) (LL o f 2) (EE o e0 2) (nmS (o 1))) [5,6,7,8,9,10,11,12,13] 0 16 5,evX (fun J Z=>X_addR ⟨#[46,10]⟩ (Z 4) (nmS (o 1)) (Z 5) (lS (46::10::nmC (o 1)))) [] 1 16 6,evX (fun J Z=>X_apush dh dt du [.ref (vv 0)] (ve+1) (lS (46::10::nmC (o 1))) (Z 6) (sp (W (o 1))) (Z 3)) [14,15] 0 16 7,evX (fun J Z=>X_f2 Pw W o ot oe wt we p n tn f e0 ve dh dt du ce (pick [ft 0,ft 1,ft 2,ft 3] 0) (pick [vv 0,J 16] 0)) [0,1,2,3,4,5,6,7,8,9,10,11,12,13,14,15] 0 17 7]
theorem run_f1 (W o ot:Nat→Nat)(oe:Nat)(wt:Nat→Nat)(we:Nat)(p:SP)(n:Int)(tn:Nat)(f:Nat→Nat)(e0 ve:Nat)(dh:Int)(dt du:Nat)(ce ft vv:Nat→Nat)(Pw:Params):∀ (b1 b2:Bool) (J Z:Nu),RD (X_f1 Pw W o ot oe wt we p n tn f e0 ve dh dt du ce ft vv) Pw b1 b2 96 (f1_hs b1 b2) (f1_cs Pw W o ot oe wt we p n tn f e0 ve dh dt du ce ft vv b1 b2) [16,17,18,19,20] [3,6,7,8,9,10,11,12,13,14] J Z
  | true,b2,J,Z=>by kernel_rfl
  | false,b2,J,Z=>by kernel_rfl
theorem ok_f1 (w:World){W o ot:Nat→Nat}{oe:Nat}{wt:Nat→Nat}{we:Nat}{p:SP}{n:Int}{tn:Nat}{f:Nat→Nat}{e0 ve:Nat}{dh:Int}{dt du:Nat}{ce ft vv:Nat→Nat}(h:OOk W o):(X_f1 w.params W o ot oe wt we p n tn f e0 ve dh dt du ce ft vv).Ok w :=
  ok_of_run (hs:=f1_hs (row1 w) (row2 w)) (cs:=f1_cs w.params W o ot oe wt we p n tn f e0 ve dh dt du ce ft vv (row1 w) (row2 w)) (ns:=[16,17,18,19,20]) (ts:=[3,6,7,8,9,10,11,12,13,14]) (vc (fun J Z=>ok_getN (by omega) (by have:=h.o 1 (by decide);omega) (wI_get (h.o 1 (by decide)))) rfl (vc (fun J Z=>ok_mulN (h.w _ (h.o 1 (by decide))).1 (h.w _ (h.o 1 (by decide))).2) rfl (vc (fun J Z=>ok_gtA (line_cut o f e0 1 (by decide))) rfl (vc (fun J Z=>ok_addR (by decide) (nm_ne _) rfl (dn_small _)) rfl (vc (fun J Z=>ok_apush w (by have:=sizeLine_eq;simp only [List.length_cons,List.length_nil];omega)) rfl (vc (fun J Z=>ok_f2 w h) rfl (va_nil))))))) rfl rfl (by decide) (show ∀ j∈([16,17,18,19,20]:List Nat),16≤j by decide) (run_f1 W o ot oe wt we p n tn f e0 ve dh dt du ce ft vv w.params (row1 w) (row2 w))
noncomputable def X_f0 (Pw:Params)(W o ot:Nat→Nat)(oe:Nat)(wt:Nat→Nat)(we:Nat)(p:SP)(n:Int)(tn:Nat)(f:Nat→Nat)(e0 ve:Nat)(dh:Int)(dt du:Nat)(ce ft vv:Nat→Nat):Spec:={ n0:=16,k:=6,nt:=13,d:=384,code:=fun J=>.forLoop lwFor.1 (.ref (J 3)) lwFor.2 [] (lwE (pick [0,0,0,J 0,ce 4,ce 5,ce 6,ce 7,ce 8,ce 9,J 1] 0)),pre:=fun J=>([frm [⟨hsh Pw sOrder,.str sOrder (ft 0),.ref (J 4)⟩,⟨hsh Pw sLine,.str sLine (ft 1),.ref (J 5)⟩,⟨hsh Pw sPile,.str sPile (ft 2),.ref (J 14)⟩] 3,cellO (.ref (J 2)),ro (wI W wt) we,liN (.ref (J 4)) (.int 0 0),ro (oI o ot) oe]++strm p J 5 (.int n tn) (J 13) (LL o f 0) (EE o e0 0)++[lst [] 0,accO (J 15) [] (ve+0),accD dh dt du]),res:=fun J Z=>.ok .next,post:=fun J Z=>([frm [⟨hsh Pw sOrder,.str sOrder (ft 0),.ref (J 4)⟩,⟨hsh Pw sLine,.str sLine (ft 1),.ref (J 5)⟩,⟨hsh Pw sPile,.str sPile (ft 2),.ref (J 14)⟩,⟨hsh Pw sKk,.str sKk (Z 12),.int (o 5:Nat) (ot 5)⟩] 4,cellO (.ref (J 2)),ro (wI W wt) we,liN .none (.int 6 0),ro (oI o ot) oe]++strm p J 5 (.int n tn) (J 13) (LL o f 6) (EE o e0 6)++[lst [] 0,accO (J 15) [.ref (J 16),.ref (J 17),.ref (J 18),.ref (J 19),.ref (J 20),.ref (J 21)] (ve+6),accD dh dt du]),new:=fun J Z=>[tupO [.str (sp (W (o 0))) (Z 0),.str (lS (46::10::nmC (o 0))) (Z 1)],tupO [.str (sp (W (o 1))) (Z 2),.str (lS (46::10::nmC (o 1))) (Z 3)],tupO [.str (sp (W (o 2))) (Z 4),.str (lS (46::10::nmC (o 2))) (Z 5)],tupO [.str (sp (W (o 3))) (Z 6),.str (lS (46::10::nmC (o 3))) (Z 7)],tupO [.str (sp (W (o 4))) (Z 8),.str (lS (46::10::nmC (o 4))) (Z 9)],tupO [.str (sp (W (o 5))) (Z 10),.str (lS (46::10::nmC (o 5))) (Z 11)]] }
noncomputable def f0_hs (b1 b2:Bool):List Nat:=[4,4,4,4,5,4,4,1,1,1,15,0,0,0,15,0,0,0,15,0,0,0,0,15,16,2,1,3,3,3,3,1,6,0,0,0,6,0,0,0,6,0,0,0,0,6,7,0,0]
noncomputable def f0_cs (Pw:Params)(W o ot:Nat→Nat)(oe:Nat)(wt:Nat→Nat)(we:Nat)(p:SP)(n:Int)(tn:Nat)(f:Nat→Nat)(e0 ve:Nat)(dh:Int)(dt du:Nat)(ce ft vv:Nat→Nat)(b1 b2:Bool):List Ev:=[evX (fun J Z=>X_getN (wI W wt) we ((o 0:Nat):Int) (ot 0) ((W (o 0):Nat):Int)) [2] 3 16 2,evX (fun J Z=>X_mul ((W (o 0):Nat):Int) (Z 1) (Z 2)) [] 3 16 3,evX (fun J Z=>X_gtA p n tn (EE o e0 0) 0 (LL o f 0) (LL o f 1) (EE o e0 1) (nmS (o 0))) [5,6,7,8,9,10,11,12,13] 0 16 5,evX (fun J Z=>X_addR ⟨#[46,10]⟩ (Z 4) (nmS (o 0)) (Z 5) (lS (46::10::nmC (o 0)))) [] 1 16 6,evX (fun J Z=>X_apush dh dt du [] (ve+0) (lS (46::10::nmC (o 0))) (Z 6) (sp (W (o 0))) (Z 3)) [14,15] 0 16 7,evX (fun J Z=>X_f1 Pw W o ot oe wt we p n tn f e0 ve dh dt du ce (pick [ft 0,ft 1,ft 2,(Z 0)] 0) (pick [J 16] 0)) [0,1,2,3,4,5,6,7,8,9,10,11,12,13,14,15] 0 17 7]
theorem run_f0 (W o ot:Nat→Nat)(oe:Nat)(wt:Nat→Nat)(we:Nat)(p:SP)(n:Int)(tn:Nat)(f:Nat→Nat)(e0 ve:Nat)(dh:Int)(dt du:Nat)(ce ft vv:Nat→Nat)(Pw:Params):∀ (b1 b2:Bool) (J Z:Nu),RD (X_f0 Pw W o ot oe wt we p n tn f e0 ve dh dt du ce ft vv) Pw b1 b2 96 (f0_hs b1 b2) (f0_cs Pw W o ot oe wt we p n tn f e0 ve dh dt du ce ft vv b1 b2) [16,17,18,19,20,21] [3,6,7,8,9,10,11,12,13,14,15,16,0] J Z
  | true,b2,J,Z=>by kernel_rfl
  | false,b2,J,Z=>by kernel_rfl
theorem ok_f0 (w:World){W o ot:Nat→Nat}{oe:Nat}{wt:Nat→Nat}{we:Nat}{p:SP}{n:Int}{tn:Nat}{f:Nat→Nat}{e0 ve:Nat}{dh:Int}{dt du:Nat}{ce ft vv:Nat→Nat}(h:OOk W o):(X_f0 w.params W o ot oe wt we p n tn f e0 ve dh dt du ce ft vv).Ok w :=
  ok_of_run (hs:=f0_hs (row1 w) (row2 w)) (cs:=f0_cs w.params W o ot oe wt we p n tn f e0 ve dh dt du ce ft vv (row1 w) (row2 w)) (ns:=[16,17,18,19,20,21]) (ts:=[3,6,7,8,9,10,11,12,13,14,15,16,0]) (vc (fun J Z=>ok_getN (by omega) (by have:=h.o 0 (by decide);omega) (wI_get (h.o 0 (by decide)))) rfl (vc (fun J Z=>ok_mulN (h.w _ (h.o 0 (by decide))).1 (h.w _ (h.o 0 (by decide))).2) rfl (vc (fun J Z=>ok_gtA (line_cut o f e0 0 (by decide))) rfl (vc (fun J Z=>ok_addR (by decide) (nm_ne _) rfl (dn_small _)) rfl (vc (fun J Z=>ok_apush w (by have:=sizeLine_eq;simp only [List.length_cons,List.length_nil];omega)) rfl (vc (fun J Z=>ok_f1 w h) rfl (va_nil))))))) rfl rfl (by decide) (show ∀ j∈([16,17,18,19,20,21]:List Nat),16≤j by decide) (run_f0 W o ot oe wt we p n tn f e0 ve dh dt du ce ft vv w.params (row1 w) (row2 w))
theorem line_short (o:Nat→Nat):(lS (lineC o)).length≤sizeLine:=by
  have:=line_small o 0
  have:=sizeLine_eq
  rw [lS_len]
  show (lineFrom ((wsO o).drop 0)).length≤_
  omega
theorem line_fold (o:Nat→Nat):[nmS (o 0),nmS (o 1),nmS (o 2),nmS (o 3),nmS (o 4),nmS (o 5)].toArray.foldl (·+·.length+(⟨#[32]⟩:Str).length) 0≤sizeLine:=by
  have h0:=nm_len (o 0);have h1:=nm_len (o 1);have h2:=nm_len (o 2);have h3:=nm_len (o 3);have h4:=nm_len (o 4);have h5:=nm_len (o 5)
  have:=sizeLine_eq
  rw [List.foldl_toArray]
  simp only [List.foldl_cons,List.foldl_nil,nmS,lS_len,show (⟨#[32]⟩:Str).length=1 from rfl]
  omega
noncomputable def X_pB (Pw:Params)(v:List Iv)(W o a:Nat→Nat):Spec:={ n0:=20,k:=24,nt:=37,d:=330,code:=fun J=>.func lwB (lwE J),pre:=fun J=>[tbF 183 (J 0) [],tbF 209 (J 1) [.int 121 0,.int 33 0,.ref (J 14)],ro v 0,frm [⟨hsh Pw sOrder,.str sOrder (a 14),.ref (J 13)⟩] 1,cellO (.ref (J 2)),cellO (.ref (J 11)),cell0,cell0,cell0,cell0,cellO (.ref (J 12)),lst [.str ⟨#[97]⟩ (a 15),.str ⟨#[98,34]⟩ (a 16),.str ⟨#[35]⟩ (a 17),.str ⟨#[100]⟩ (a 18),.str ⟨#[101]⟩ (a 19),.str ⟨#[102]⟩ (a 20)] 0,ro (wI W (fun j=>a (j+8))) 6,ro (oI o (fun j=>a (j+1))) (a 7),codO (.str sLambda (a 21)) sKeyQ (a 22) (codR 121 33 (a 23) (J 15) (J 16) (J 17) (J 18) (J 19) (a 26) (a 27)),tupT [.str sWeights (a 24)],tbl [],tupT [.str sKk (a 25)],tupT [],tmpO sKeyQ lamK],res:=fun J Z=>.ok .next,post:=fun J Z=>[tbF 183 (J 0) [.int 91 0,.int 18 0,.ref (J 27)],tbF 209 (J 1) [.int 121 0,.int 33 0,.ref (J 14)],ro v 0,frm [⟨hsh Pw sOrder,.str sOrder (a 14),.ref (J 13)⟩,⟨hsh Pw sLine,.str sLine (Z 0),.ref (J 20)⟩,⟨hsh Pw sPile,.str sPile (Z 1),.ref (J 36)⟩,⟨hsh Pw sKk,.str sKk (Z 2),.int (o 5:Nat) (a 6)⟩] 4,cellO (.ref (J 2)),cellO (.ref (J 11)),cell0,cell0,cell0,cell0,cellO (.ref (J 12)),lst [.str ⟨#[97]⟩ (a 15),.str ⟨#[98,34]⟩ (a 16),.str ⟨#[35]⟩ (a 17),.str ⟨#[100]⟩ (a 18),.str ⟨#[101]⟩ (a 19),.str ⟨#[102]⟩ (a 20)] 0,ro (wI W (fun j=>a (j+8))) 6,ro (oI o (fun j=>a (j+1))) (a 7),codO (.str sLambda (a 21)) sKeyQ (a 22) (codR 121 33 (a 23) (J 15) (J 16) (J 17) (J 18) (J 19) (a 26) (a 27)),tupT [.str sWeights (a 24)],tbl [],tupT [.str sKk (a 25)],tupT [],tmpO sKeyQ lamK],new:=fun J Z=>[lexO (J 21),lexD (hLex Pw) (fLex (Z 4) (Z 5) (Z 6) (Z 7) (Z 8) 0) (.int 1 (Z 3)) (.ref (J 23)) (J 22) [] 4,lst [] 0,lexO (J 24),lexD (hLex Pw) (fLex (Z 10) (Z 11) (Z 12) (Z 13) (Z 14) (Z 15)) (.int 1 (Z 9)) .none (J 25) [⟨hsh Pw sRead,.str sRead (Z 15),.ref (J 26)⟩] 5,lst [] 0,lamO lamP (J 28) (J 27) (J 29),codO (.str sLambda (Z 16)) sLamQ (Z 17) (codR 91 18 (Z 18) (J 30) (J 31) (J 32) (J 33) (J 34) (Z 21) (Z 22)),cellO (.ref (J 35)),tupT [.ref (J 28)],tupT [.str sLeft (Z 19)],tbl [],tupT [.str sSize (Z 20)],tupT [],tmpO sLamQ lamP,lst [] (EE o (Z 36) 6),accO (J 37) [.ref (J 38),.ref (J 39),.ref (J 40),.ref (J 41),.ref (J 42),.ref (J 43)] (0+6),accD (hsh Pw sInit) (Z 23) 305,tupO [.str (sp (W (o 0))) (Z 24),.str (lS (46::10::nmC (o 0))) (Z 25)],tupO [.str (sp (W (o 1))) (Z 26),.str (lS (46::10::nmC (o 1))) (Z 27)],tupO [.str (sp (W (o 2))) (Z 28),.str (lS (46::10::nmC (o 2))) (Z 29)],tupO [.str (sp (W (o 3))) (Z 30),.str (lS (46::10::nmC (o 3))) (Z 31)],tupO [.str (sp (W (o 4))) (Z 32),.str (lS (46::10::nmC (o 4))) (Z 33)],tupO [.str (sp (W (o 5))) (Z 34),.str (lS (46::10::nmC (o 5))) (Z 35)]] }
noncomputable def pB_hs (b1 b2:Bool):List Nat:=(match b1,b2 with | true,true=>[0,0,0,0,4,14,14,14,21,23,23,23,0,24,24,24,0,0,0,4,4,0,0,0,4,4,4,14,14,14,42] | true,false=>[0,0,0,0,4,14,14,14,21,21,21,21,21,23,23,23,0,24,24,24,0,0,0,4,4,0,0,0,4,4,4,14,14,14,42] | false,true=>[0,0,0,0,4,14,14,14,21,23,23,23,0,24,24,24,0,0,0,4,4,0,0,0,4,4,4,14,14,14,42] | false,false=>[0,0,0,0,4,14,14,14,21,21,21,21,21,23,23,23,0,24,24,24,0,0,0,4,4,0,0,0,4,4,4,14,14,14,42])
noncomputable def pB_cs (Pw:Params)(v:List Iv)(W o a:Nat→Nat)(b1 b2:Bool):List Ev:=(match b1,b2 with | true,true=>[evX (fun J Z=>X_nmo Pw o (fun j=>a (j+1)) (a 7) (fun j=>a (15+j)) (J 3)) [22,20,21,5,11,13] 3 23 1,evX (fun J Z=>X_joinL ⟨#[32]⟩ (Z 0) [(nmS (o 0),(Z 2)),(nmS (o 1),(Z 3)),(nmS (o 2),(Z 4)),(nmS (o 3),(Z 5)),(nmS (o 4),(Z 6)),(nmS (o 5),(Z 7))] 6 (lS (lineC o))) [21] 1 23 8,evX (fun J Z=>X_init (lS (lineC o)) (Z 8)) [23] 5 24 9,evX (fun J Z=>X_stm1 Pw (chV (lS (lineC o)).cps.toList (dcd (Z 9) (Z 10))) (Z 11)) [0,23] 0 24 12,evX (fun J Z=>X_lex Pw (J 24)) [] 0 36 26,evX (fun J Z=>X_mk Pw) [] 0 39 33,evX (fun J Z=>X_f0 Pw W o (fun j=>a (j+1)) (a 7) (fun j=>a (j+8)) 6 ⟨hLex Pw,fLex (Z 27) (Z 28) (Z 29) (Z 30) (Z 31) 0,hLex Pw,fLex (Z 13) (Z 14) (Z 15) (Z 16) (Z 17) (Z 18),.int 1 (Z 12),J 26,4,5,.str sLambda (Z 19),sLamQ,(Z 20),codR 91 18 (Z 21) (J 31) (J 32) (J 33) (J 34) (J 35) (Z 24) (Z 25),J 30⟩ 1 (Z 26) (dcd (Z 9) (Z 10)) (Z 11) 0 (hsh Pw sInit) (Z 33) 305 (pick [0,0,0,0,J 4,J 5,J 6,J 7,J 8,J 9] 0) (pick [(a 14),(Z 32),(Z 34)] 0) (fun _=>0)) [3,10,12,41,13,36,37,24,25,27,28,29,23,38,39,40] 2 42 35] | true,false=>[evX (fun J Z=>X_nmo Pw o (fun j=>a (j+1)) (a 7) (fun j=>a (15+j)) (J 3)) [22,20,21,5,11,13] 5 23 1,evX (fun J Z=>X_joinL ⟨#[32]⟩ (Z 0) [(nmS (o 0),(Z 2)),(nmS (o 1),(Z 3)),(nmS (o 2),(Z 4)),(nmS (o 3),(Z 5)),(nmS (o 4),(Z 6)),(nmS (o 5),(Z 7))] 6 (lS (lineC o))) [21] 1 23 8,evX (fun J Z=>X_init (lS (lineC o)) (Z 8)) [23] 5 24 9,evX (fun J Z=>X_stm1 Pw (chV (lS (lineC o)).cps.toList (dcd (Z 9) (Z 10))) (Z 11)) [0,23] 0 24 12,evX (fun J Z=>X_lex Pw (J 24)) [] 0 36 26,evX (fun J Z=>X_mk Pw) [] 0 39 33,evX (fun J Z=>X_f0 Pw W o (fun j=>a (j+1)) (a 7) (fun j=>a (j+8)) 6 ⟨hLex Pw,fLex (Z 27) (Z 28) (Z 29) (Z 30) (Z 31) 0,hLex Pw,fLex (Z 13) (Z 14) (Z 15) (Z 16) (Z 17) (Z 18),.int 1 (Z 12),J 26,4,5,.str sLambda (Z 19),sLamQ,(Z 20),codR 91 18 (Z 21) (J 31) (J 32) (J 33) (J 34) (J 35) (Z 24) (Z 25),J 30⟩ 1 (Z 26) (dcd (Z 9) (Z 10)) (Z 11) 0 (hsh Pw sInit) (Z 33) 305 (pick [0,0,0,0,J 4,J 5,J 6,J 7,J 8,J 9] 0) (pick [(a 14),(Z 32),(Z 34)] 0) (fun _=>0)) [3,10,12,41,13,36,37,24,25,27,28,29,23,38,39,40] 2 42 35] | false,true=>[evX (fun J Z=>X_nmo Pw o (fun j=>a (j+1)) (a 7) (fun j=>a (15+j)) (J 3)) [22,20,21,5,11,13] 3 23 1,evX (fun J Z=>X_joinL ⟨#[32]⟩ (Z 0) [(nmS (o 0),(Z 2)),(nmS (o 1),(Z 3)),(nmS (o 2),(Z 4)),(nmS (o 3),(Z 5)),(nmS (o 4),(Z 6)),(nmS (o 5),(Z 7))] 6 (lS (lineC o))) [21] 1 23 8,evX (fun J Z=>X_init (lS (lineC o)) (Z 8)) [23] 5 24 9,evX (fun J Z=>X_stm1 Pw (chV (lS (lineC o)).cps.toList (dcd (Z 9) (Z 10))) (Z 11)) [0,23] 0 24 12,evX (fun J Z=>X_lex Pw (J 24)) [] 0 36 26,evX (fun J Z=>X_mk Pw) [] 0 39 33,evX (fun J Z=>X_f0 Pw W o (fun j=>a (j+1)) (a 7) (fun j=>a (j+8)) 6 ⟨hLex Pw,fLex (Z 27) (Z 28) (Z 29) (Z 30) (Z 31) 0,hLex Pw,fLex (Z 13) (Z 14) (Z 15) (Z 16) (Z 17) (Z 18),.int 1 (Z 12),J 26,4,5,.str sLambda (Z 19),sLamQ,(Z 20),codR 91 18 (Z 21) (J 31) (J 32) (J 33) (J 34) (J 35) (Z 24) (Z 25),J 30⟩ 1 (Z 26) (dcd (Z 9) (Z 10)) (Z 11) 0 (hsh Pw sInit) (Z 33) 305 (pick [0,0,0,0,J 4,J 5,J 6,J 7,J 8,J 9] 0) (pick [(a 14),(Z 32),(Z 34)] 0) (fun _=>0)) [3,10,12,41,13,36,37,24,25,27,28,29,23,38,39,40] 2 42 35] | false,false=>[evX (fun J Z=>X_nmo Pw o (fun j=>a (j+1)) (a 7) (fun j=>a (15+j)) (J 3)) [22,20,21,5,11,13] 5 23 1,evX (fun J Z=>X_joinL ⟨#[32]⟩ (Z 0) [(nmS (o 0),(Z 2)),(nmS (o 1),(Z 3)),(nmS (o 2),(Z 4)),(nmS (o 3),(Z 5)),(nmS (o 4),(Z 6)),(nmS (o 5),(Z 7))] 6 (lS (lineC o))) [21] 1 23 8,evX (fun J Z=>X_init (lS (lineC o)) (Z 8)) [23] 5 24 9,evX (fun J Z=>X_stm1 Pw (chV (lS (lineC o)).cps.toList (dcd (Z 9) (Z 10))) (Z 11)) [0,23] 0 24 12,evX (fun J Z=>X_lex Pw (J 24)) [] 0 36 26,evX (fun J Z=>X_mk Pw) [] 0 39 33,evX (fun J Z=>X_f0 Pw W o (fun j=>a (j+1)) (a 7) (fun j=>a (j+8)) 6 ⟨hLex Pw,fLex (Z 27) (Z 28) (Z 29) (Z 30) (Z 31) 0,hLex Pw,fLex (Z 13) (Z 14) (Z 15) (Z 16) (Z 17) (Z 18),.int 1 (Z 12),J 26,4,5,.str sLambda (Z 19),sLamQ,(Z 20),codR 91 18 (Z 21) (J 31) (J 32) (J 33) (J 34) (J 35) (Z 24) (Z 25),J 30⟩ 1 (Z 26) (dcd (Z 9) (Z 10)) (Z 11) 0 (hsh Pw sInit) (Z 33) 305 (pick [0,0,0,0,J 4,J 5,J 6,J 7,J 8,J 9] 0) (pick [(a 14),(Z 32),(Z 34)] 0) (fun _=>0)) [3,10,12,41,13,36,37,24,25,27,28,29,23,38,39,40] 2 42 35])
theorem run_pB (v:List Iv)(W o a:Nat→Nat)(Pw:Params):∀ (b1 b2:Bool) (J Z:Nu),RG (X_pB Pw v W o a) (fun J=>stD [stOf 3,stOf 4,stOf 5] (lwE J)) Pw b1 b2 113 (pB_hs b1 b2) (pB_cs Pw v W o a b1 b2) [36,37,38,24,25,26,27,28,29,30,31,32,33,34,35,23,39,40,42,43,44,45,46,47] [32,34,47,26,27,28,29,30,31,12,13,14,15,16,17,18,19,20,21,22,23,24,25,33,35,36,37,38,39,40,41,42,43,44,45,46,11] (upF J) Z
  | true,true,J,Z=>by kernel_rfl
  | true,false,J,Z=>by kernel_rfl
  | false,true,J,Z=>by kernel_rfl
  | false,false,J,Z=>by kernel_rfl
theorem va_pB (w:World){v:List Iv}{W o a:Nat→Nat}(h:OOk W o)(b1 b2:Bool):ValidAll prg w (gl w.params) (pB_cs w.params v W o a b1 b2):=by cases b1<;>cases b2<;>exact vc (fun J Z=>ok_nmo w h) rfl (vc (fun J Z=>ok_joinL (show 6≠1 by decide) (glued_line o) (line_fold o) (line_short o)) rfl (vc (fun J Z=>ok_init (line_short o)) rfl (vc (fun J Z=>ok_stm1 w) rfl (vc (fun J Z=>ok_lex w) rfl (vc (fun J Z=>ok_mk w) rfl (vc (fun J Z=>ok_f0 w h) rfl (va_nil)))))))
theorem ok_pB (w:World){v:List Iv}{W o a:Nat→Nat}(h:OOk W o):StOk w (X_pB w.params v W o a) [stOf 3,stOf 4,stOf 5] lwE :=
  st_of_runG (hs:=pB_hs (row1 w) (row2 w)) (cs:=pB_cs w.params v W o a (row1 w) (row2 w)) (ns:=[36,37,38,24,25,26,27,28,29,30,31,32,33,34,35,23,39,40,42,43,44,45,46,47]) (ts:=[32,34,47,26,27,28,29,30,31,12,13,14,15,16,17,18,19,20,21,22,23,24,25,33,35,36,37,38,39,40,41,42,43,44,45,46,11]) (va_pB w h (row1 w) (row2 w)) rfl rfl (by decide) (show ∀ j∈([36,37,38,24,25,26,27,28,29,30,31,32,33,34,35,23,39,40,42,43,44,45,46,47]:List Nat),20≤j by decide) (hU_F (Nat.le_of_ble_eq_true rfl) (fun _=>rfl) (fun _=>rfl)) (run_pB v W o a w.params (row1 w) (row2 w)) (fun _=>rfl) (fun _ _=>⟨_,rfl⟩)
noncomputable def X_last (c:Lx)(ct pe es:Nat)(xx:Nat→Tx)(wt mt:Nat→Nat):Spec:={ n0:=17,k:=0,nt:=3,d:=370,code:=fun J=>.call (.ref 202) ⟨[.ref (J 0),.ref (J 2),.int 5 ct],[]⟩,pre:=fun J=>([accO (J 1) (r6 J 11) es,adO c]++strm c.1 J 2 (.int c.2.1 c.2.2.1) (J 10) [] c.2.2.2.1++[lst [] pe]++tup6 xx wt mt),res:=fun J Z=>.ok (.ret (.str (txS (lastOf (six xx))) (Z 0))),post:=fun J Z=>([accO (J 1) [] (Z 1),adO c]++strm c.1 J 2 (.int c.2.1 c.2.2.1) (J 10) [] c.2.2.2.1++[lst [] (Z 2+1)]++tup6 xx wt mt),new:=fun J Z=>[] }
noncomputable def last_hs (b1 b2:Bool):List Nat:=[0,0,18,18,18,18,18,18,1,18,18,0,0,18,19,19,19,19,19,19,19,19,19,19,20,18,3,0,0,0,3,0,0,0,3,0,0,0,0,3,4,0]
noncomputable def last_cs (Pw:Params)(c:Lx)(ct pe es:Nat)(xx:Nat→Tx)(wt mt:Nat→Nat)(b1 b2:Bool):List Ev:=[evX (fun J Z=>X_loop Pw c (fun j=>match j with | 0=>hsh Pw sPile | 1=>hsh Pw sLine | 2=>hsh Pw sCount | 3=>hsh Pw sFront | _=>0) (fun j=>match j with | 0=>Z 0 | 1=>Z 1 | 2=>Z 2 | 3=>Z 4 | _=>0) ct (Z 3) pe es xx wt mt) [17,0,1,2,3,4,5,6,7,8,9,10,19,11,12,13,14,15,16] 9 20 7,evX (fun J Z=>X_gtpop c.1.hf c.1.tf (.int c.2.1 c.2.2.1) (.ref (J 4)) (Z 19) c.1.e1 [] (txS (lastOf (six xx))) (Z 18) []) [2,3,10] 0 21 22]
theorem run_last (c:Lx)(ct pe es:Nat)(xx:Nat→Tx)(wt mt:Nat→Nat)(Pw:Params):∀ (b1 b2:Bool) (J Z:Nu),RD (X_last c ct pe es xx wt mt) Pw b1 b2 96 (last_hs b1 b2) (last_cs Pw c ct pe es xx wt mt b1 b2) [] [18,17,19] J Z
  | true,b2,J,Z=>by kernel_rfl
  | false,b2,J,Z=>by kernel_rfl
theorem ok_last (w:World){c:Lx}{ct pe es:Nat}{xx:Nat→Tx}{wt mt:Nat→Nat}(hx:∀ x∈six xx,OkT 0 x):(X_last c ct pe es xx wt mt).Ok w :=
  ok_of_run (hs:=last_hs (row1 w) (row2 w)) (cs:=last_cs w.params c ct pe es xx wt mt (row1 w) (row2 w)) (ns:=[]) (ts:=[18,17,19]) (vc (fun J Z=>ok_loop hx) rfl (vc (fun J Z=>ok_gtpop w (by decide)) rfl (va_nil))) rfl rfl (by decide) (show ∀ j∈([]:List Nat),17≤j by decide) (run_last c ct pe es xx wt mt w.params (row1 w) (row2 w))
end
section
open PySem PySem.W PySem.W.X PySem.Spec PySem.Calls
set_option maxHeartbeats 1000000
noncomputable def X_lastR (c:Lx)(ct pe es:Nat)(xx:Nat→Tx)(wt mt:Nat→Nat)(z:Tx):Spec:={ n0:=17,k:=0,nt:=3,d:=370,code:=fun J=>.call (.ref 202) ⟨[.ref (J 0),.ref (J 2),.int 5 ct],[]⟩,pre:=fun J=>([accO (J 1) (r6 J 11) es,adO c]++strm c.1 J 2 (.int c.2.1 c.2.2.1) (J 10) [] c.2.2.2.1++[lst [] pe]++tup6 xx wt mt),res:=fun J Z=>.ok (.ret (.str (txS z) (Z 0))),post:=fun J Z=>([accO (J 1) [] (Z 1),adO c]++strm c.1 J 2 (.int c.2.1 c.2.2.1) (J 10) [] c.2.2.2.1++[lst [] (Z 2+1)]++tup6 xx wt mt),new:=fun J Z=>[] }
theorem ok_lastR {w:World}{c:Lx}{ct pe es:Nat}{xx:Nat→Tx}{wt mt:Nat→Nat}{z:Tx}(hx:∀ x∈six xx,OkT 0 x)(hz:lastOf (six xx)=z):(X_lastR c ct pe es xx wt mt z).Ok w:=by
  have:=ok_last w (c:=c) (ct:=ct) (pe:=pe) (es:=es) (wt:=wt) (mt:=mt) hx
  unfold X_last at this
  rw [hz] at this
  exact this
noncomputable abbrev xxO (W o:Nat→Nat):Nat→Tx:=fun j=>lf W o (5-j)
theorem lf_ok {W o:Nat→Nat}(h:OOk W o){j:Nat}(hj:j<6):OkT 0 (lf W o j):=by
  obtain ⟨h1,h2⟩:=h.w _ (h.o j hj)
  have h3:=nm_len (o j)
  exact ⟨by simp [lf],by simp [lf],h1,by show W (o j)≤30*2 ^ 0;omega,by show (46::10::nmC (o j)).length≤lb 0;simp only [List.length_cons,lb];omega⟩
theorem six_ok {W o:Nat→Nat}(h:OOk W o):∀ x∈six (xxO W o),OkT 0 x:=by
  intro x hx
  simp only [six,List.mem_cons,List.not_mem_nil,or_false] at hx
  rcases hx with rfl | rfl | rfl | rfl | rfl | rfl
  · exact lf_ok h (by decide)
  · exact lf_ok h (by decide)
  · exact lf_ok h (by decide)
  · exact lf_ok h (by decide)
  · exact lf_ok h (by decide)
  · exact lf_ok h (by decide)
theorem last_ok {p:List Tx}(h:∀ x∈p,OkT 0 x)(h6:p.length=6):OkT 5 (lastOf p):=by
  have L0:Live 0 6 (p,[]):=⟨h,fun x hx=>(by cases hx),(show p.length+0=6 from h6)⟩
  have L1:Live 1 5 (t1 p):=L0.turn (by decide) 0
  have L2:Live 2 4 (t2 p):=L1.turn (by decide) 1
  have L3:Live 3 3 (t3 p):=L2.turn (by decide) 2
  have L4:Live 4 2 (t4 p):=L3.turn (by decide) 3
  have L5:Live 5 1 (t5 p):=L4.turn (by decide) 4
  exact L5.q (lastOf p) (by rw [t5_eq L5];exact List.mem_singleton.mpr rfl)
structure ZOk (W o:Nat→Nat)(N:Nat)(M:List Nat):Prop where
  eq:lastOf (six (xxO W o))=(N,M)
theorem ZOk.ok {W o:Nat→Nat}{N:Nat}{M:List Nat}(h:OOk W o)(z:ZOk W o N M):OkT 5 (N,M):=by
  rw [← z.eq]
  exact last_ok (six_ok h) rfl
theorem lb5:lb 5=201288:=by decide
theorem ZOk.short {W o:Nat→Nat}{N:Nat}{M:List Nat}(h:OOk W o)(z:ZOk W o N M):(lS M).length≤sizeLine:=by
  have:=(z.ok h).l
  have:=lb5
  have:=sizeLine_eq
  rw [lS_len]
  have:M.length≤lb 5:=(z.ok h).l
  omega
theorem ZOk.strip {w:World}{W o:Nat→Nat}{N:Nat}{M:List Nat}{t u:Nat}(h:OOk W o)(z:ZOk W o N M):(X_lstrip (txS (N,M)) t u (lS M)).Ok w:=by
  have k:=z.ok h
  have h1:=lb5
  have h2:=sizeLine_eq
  have h3:M.length≤lb 5:=k.l
  have h4:N≤30*2 ^ 5:=k.w
  exact ok_lstrip (by rw [tx_list];exact drop_sp k.hd) (by rw [tx_len];show N+M.length≤_;omega)
end
section
open PySem PySem.W PySem.W.X PySem.Spec PySem.Calls
set_option maxHeartbeats 0
noncomputable def X_pC (Pw:Params)(v:List Iv)(W o a b:Nat→Nat)(N:Nat)(M:List Nat):Spec:={ n0:=44,k:=10,nt:=25,d:=330,code:=fun J=>.func lwB (lwE J),pre:=fun J=>[tbF 183 (J 0) [.int 91 0,.int 18 0,.ref (J 27)],tbF 209 (J 1) [.int 121 0,.int 33 0,.ref (J 14)],ro v 0,frm [⟨hsh Pw sOrder,.str sOrder (a 14),.ref (J 13)⟩,⟨hsh Pw sLine,.str sLine (b 0),.ref (J 20)⟩,⟨hsh Pw sPile,.str sPile (b 1),.ref (J 36)⟩,⟨hsh Pw sKk,.str sKk (b 2),.int (o 5:Nat) (a 6)⟩] 4,cellO (.ref (J 2)),cellO (.ref (J 11)),cell0,cell0,cell0,cell0,cellO (.ref (J 12)),lst [.str ⟨#[97]⟩ (a 15),.str ⟨#[98,34]⟩ (a 16),.str ⟨#[35]⟩ (a 17),.str ⟨#[100]⟩ (a 18),.str ⟨#[101]⟩ (a 19),.str ⟨#[102]⟩ (a 20)] 0,ro (wI W (fun j=>a (j+8))) 6,ro (oI o (fun j=>a (j+1))) (a 7),codO (.str sLambda (a 21)) sKeyQ (a 22) (codR 121 33 (a 23) (J 15) (J 16) (J 17) (J 18) (J 19) (a 26) (a 27)),tupT [.str sWeights (a 24)],tbl [],tupT [.str sKk (a 25)],tupT [],tmpO sKeyQ lamK,lexO (J 21),lexD (hLex Pw) (fLex (b 4) (b 5) (b 6) (b 7) (b 8) 0) (.int 1 (b 3)) (.ref (J 23)) (J 22) [] 4,lst [] 0,lexO (J 24),lexD (hLex Pw) (fLex (b 10) (b 11) (b 12) (b 13) (b 14) (b 15)) (.int 1 (b 9)) .none (J 25) [⟨hsh Pw sRead,.str sRead (b 15),.ref (J 26)⟩] 5,lst [] 0,lamO lamP (J 28) (J 27) (J 29),codO (.str sLambda (b 16)) sLamQ (b 17) (codR 91 18 (b 18) (J 30) (J 31) (J 32) (J 33) (J 34) (b 21) (b 22)),cellO (.ref (J 35)),tupT [.ref (J 28)],tupT [.str sLeft (b 19)],tbl [],tupT [.str sSize (b 20)],tupT [],tmpO sLamQ lamP,lst [] (EE o (b 36) 6),accO (J 37) [.ref (J 38),.ref (J 39),.ref (J 40),.ref (J 41),.ref (J 42),.ref (J 43)] (0+6),accD (hsh Pw sInit) (b 23) 305,tupO [.str (sp (W (o 0))) (b 24),.str (lS (46::10::nmC (o 0))) (b 25)],tupO [.str (sp (W (o 1))) (b 26),.str (lS (46::10::nmC (o 1))) (b 27)],tupO [.str (sp (W (o 2))) (b 28),.str (lS (46::10::nmC (o 2))) (b 29)],tupO [.str (sp (W (o 3))) (b 30),.str (lS (46::10::nmC (o 3))) (b 31)],tupO [.str (sp (W (o 4))) (b 32),.str (lS (46::10::nmC (o 4))) (b 33)],tupO [.str (sp (W (o 5))) (b 34),.str (lS (46::10::nmC (o 5))) (b 35)]],res:=fun J Z=>.ok .next,post:=fun J Z=>[tbF 183 (J 0) [.int 91 0,.int 18 0,.ref (J 27)],tbF 209 (J 1) [.int 121 0,.int 33 0,.ref (J 14)],ro v 0,frm [⟨hsh Pw sOrder,.str sOrder (a 14),.ref (J 13)⟩,⟨hsh Pw sLine,.str sLine (b 0),.ref (J 20)⟩,⟨hsh Pw sPile,.str sPile (b 1),.ref (J 36)⟩,⟨hsh Pw sKk,.str sKk (b 2),.int (o 5:Nat) (a 6)⟩,⟨hsh Pw sLast,.str sLast (Z 0),.str (txS (N,M)) (Z 1)⟩,⟨hsh Pw sMail,.str sMail (Z 2),.str (lS M) (Z 3)⟩] 6,cellO (.ref (J 2)),cellO (.ref (J 11)),cellO (.ref (J 44)),cell0,cell0,cell0,cellO (.ref (J 12)),lst [.str ⟨#[97]⟩ (a 15),.str ⟨#[98,34]⟩ (a 16),.str ⟨#[35]⟩ (a 17),.str ⟨#[100]⟩ (a 18),.str ⟨#[101]⟩ (a 19),.str ⟨#[102]⟩ (a 20)] 0,ro (wI W (fun j=>a (j+8))) 6,ro (oI o (fun j=>a (j+1))) (a 7),codO (.str sLambda (a 21)) sKeyQ (a 22) (codR 121 33 (a 23) (J 15) (J 16) (J 17) (J 18) (J 19) (a 26) (a 27)),tupT [.str sWeights (a 24)],tbl [],tupT [.str sKk (a 25)],tupT [],tmpO sKeyQ lamK,lexO (J 21),lexD (hLex Pw) (fLex (b 4) (b 5) (b 6) (b 7) (b 8) 0) (.int 1 (b 3)) (.ref (J 23)) (J 22) [] 4,lst [.str (lS M) (Z 3)] ((Z 23)+1+1),lexO (J 24),lexD (hLex Pw) (fLex (b 10) (b 11) (b 12) (b 13) (b 14) (b 15)) (.int 1 (b 9)) .none (J 25) [⟨hsh Pw sRead,.str sRead (b 15),.ref (J 26)⟩] 5,lst [] 0,lamO lamP (J 28) (J 27) (J 29),codO (.str sLambda (b 16)) sLamQ (b 17) (codR 91 18 (b 18) (J 30) (J 31) (J 32) (J 33) (J 34) (b 21) (b 22)),cellO (.ref (J 35)),tupT [.ref (J 28)],tupT [.str sLeft (b 19)],tbl [],tupT [.str sSize (b 20)],tupT [],tmpO sLamQ lamP,lst [] (EE o (b 36) 6),accO (J 37) [] (Z 24),accD (hsh Pw sInit) (b 23) 305,tupO [.str (sp (W (o 0))) (b 24),.str (lS (46::10::nmC (o 0))) (b 25)],tupO [.str (sp (W (o 1))) (b 26),.str (lS (46::10::nmC (o 1))) (b 27)],tupO [.str (sp (W (o 2))) (b 28),.str (lS (46::10::nmC (o 2))) (b 29)],tupO [.str (sp (W (o 3))) (b 30),.str (lS (46::10::nmC (o 3))) (b 31)],tupO [.str (sp (W (o 4))) (b 32),.str (lS (46::10::nmC (o 4))) (b 33)],tupO [.str (sp (W (o 5))) (b 34),.str (lS (46::10::nmC (o 5))) (b 35)]],new:=fun J Z=>[lexO (J 45),lexD (hLex Pw) (fLex (Z 5) (Z 6) (Z 7) (Z 8) (Z 9) 0) (.int 1 (Z 4)) (.ref (J 47)) (J 46) [] 4,lst [.str (txS (N,M)) (Z 1)] 1,lexO (J 48),lexD (hLex Pw) (fLex (Z 11) (Z 12) (Z 13) (Z 14) (Z 15) (Z 16)) (.int 1 (Z 10)) .none (J 49) [⟨hsh Pw sRead,.str sRead (Z 16),.ref (J 50)⟩] 5,lst [] 0,lamO lamP (J 51) (J 27) (J 52),cellO (.ref (J 53)),tupT [.ref (J 51)],lst (chV M (dcd (Z 17) (Z 18))) (Z 19)] }
noncomputable def pC_hs (b1 b2:Bool):List Nat:=[0,4,4,4,37,0,0,0,37,0,0,0,37,0,0,0,0,37,38,0,0,4,4,4,4,4,0,0,0,0,4,0,45,45,45,0,0,0,7,7,7,52,0,0,0,52,0,0,0,52,0,0,0,0,52,53,4,0,4,21,0,0,0,21,0,0,0,21,0,0,0,0,21,22,4,0]
noncomputable def pC_cs (Pw:Params)(v:List Iv)(W o a b:Nat→Nat)(N:Nat)(M:List Nat)(b1 b2:Bool):List Ev:=[evX (fun J Z=>X_pc (J 37) [.ref (J 38),.ref (J 39),.ref (J 40),.ref (J 41),.ref (J 42),.ref (J 43)] (0+6)) [36] 0 44 0,evX (fun J Z=>X_lastR (⟨hLex Pw,fLex (b 4) (b 5) (b 6) (b 7) (b 8) 0,hLex Pw,fLex (b 10) (b 11) (b 12) (b 13) (b 14) (b 15),.int 1 (b 9),J 25,4,5,.str sLambda (b 16),sLamQ,(b 17),codR 91 18 (b 18) (J 30) (J 31) (J 32) (J 33) (J 34) (b 21) (b 22),J 29⟩,1,(b 3),(EE o (b 36) 6),hsh Pw sInit,(b 23),305) (Z 2) 0 (0+6) (xxO W o) (fun j=>b (34-2*j)) (fun j=>b (35-2*j)) (N,M)) [36,37,20,21,23,24,26,27,28,35,22,43,42,41,40,39,38] 2 44 3,evX (fun J Z=>X_lstrip (txS (N,M)) (Z 3) (Z 7) (lS M)) [] 1 44 8,evX (fun J Z=>X_init (lS M) (Z 8)) [44] 5 45 10,evX (fun J Z=>X_stm2 Pw (chV (lS M).cps.toList (dcd (Z 10) (Z 11))) (Z 12) (.str sLambda (b 16)) sLamQ (b 17) (codR 91 18 (b 18) (J 30) (J 31) (J 32) (J 33) (J 34) (b 21) (b 22))) [0,44,27] 0 45 13,evX (fun J Z=>X_lex Pw (J 45)) [] 0 51 20,evX (fun J Z=>X_push (hLex Pw) (fLex (Z 21) (Z 22) (Z 23) (Z 24) (Z 25) 0) (.int 1 (Z 20)) (.ref (J 45)) 0 4 [] (txS (N,M)) (Z 3) []) [51,52,53] 0 54 26,evX (fun J Z=>X_push (hLex Pw) (fLex (b 4) (b 5) (b 6) (b 7) (b 8) 0) (.int 1 (b 3)) (.ref (J 23)) ((Z 5)+1) 4 [] (lS M) (Z 8) []) [20,21,22] 0 54 26]
theorem run_pC (v:List Iv)(W o a b:Nat→Nat)(N:Nat)(M:List Nat)(Pw:Params):∀ (b1 b2:Bool) (J Z:Nu),RG (X_pC Pw v W o a b N M) (fun J=>stD [stOf 6,stOf 7,stOf 8,stOf 9,stOf 10] (lwE J)) Pw b1 b2 161 (pC_hs b1 b2) (pC_cs Pw v W o a b N M b1 b2) [51,52,53,45,46,47,48,49,50,44] [6,3,9,8,20,21,22,23,24,25,13,14,15,16,17,18,19,10,11,12,0,0,0,5,4] (upF J) Z
  | true,true,J,Z=>by kernel_rfl
  | true,false,J,Z=>by kernel_rfl
  | false,true,J,Z=>by kernel_rfl
  | false,false,J,Z=>by kernel_rfl
theorem va_pC (w:World){v:List Iv}{W o a b:Nat→Nat}{N:Nat}{M:List Nat}(h:OOk W o)(z:ZOk W o N M)(b1 b2:Bool):ValidAll prg w (gl w.params) (pC_cs w.params v W o a b N M b1 b2):=vc (fun J Z=>ok_pc w) rfl (vc (fun J Z=>ok_lastR (six_ok h) z.eq) rfl (vc (fun J Z=>z.strip h) rfl (vc (fun J Z=>ok_init (z.short h)) rfl (vc (fun J Z=>ok_stm2 w) rfl (vc (fun J Z=>ok_lex w) rfl (vc (fun J Z=>ok_push w (Nat.zero_le _)) rfl (vc (fun J Z=>ok_push w (Nat.zero_le _)) rfl (va_nil))))))))
theorem ok_pC (w:World){v:List Iv}{W o a b:Nat→Nat}{N:Nat}{M:List Nat}(h:OOk W o)(z:ZOk W o N M):StOk w (X_pC w.params v W o a b N M) [stOf 6,stOf 7,stOf 8,stOf 9,stOf 10] lwE :=
  st_of_runG (hs:=pC_hs (row1 w) (row2 w)) (cs:=pC_cs w.params v W o a b N M (row1 w) (row2 w)) (ns:=[51,52,53,45,46,47,48,49,50,44]) (ts:=[6,3,9,8,20,21,22,23,24,25,13,14,15,16,17,18,19,10,11,12,0,0,0,5,4]) (va_pC w h z (row1 w) (row2 w)) rfl rfl (by decide) (show ∀ j∈([51,52,53,45,46,47,48,49,50,44]:List Nat),44≤j by decide) (hU_F (Nat.le_of_ble_eq_true rfl) (fun _=>rfl) (fun _=>rfl)) (run_pC v W o a b N M w.params (row1 w) (row2 w)) (fun _=>rfl) (fun _ _=>⟨_,rfl⟩)
end
section
open PySem PySem.W PySem.W.X PySem.Spec PySem.Calls PyProof.Rows
set_option maxHeartbeats 1000000
noncomputable def dC (n:Nat):List Nat:=List.replicate n 46
noncomputable def mailFrom:List (List Nat)→List Nat
  | []=>[]
  | [w]=>w
  | w::ws=>w++13::10::mailFrom ws
noncomputable def wsM (dd cc:Nat→Nat):List (List Nat):=[dC (dd 0),nmC (cc 0),dC (dd 1),nmC (cc 1),dC (dd 2),nmC (cc 2),dC (dd 3),nmC (cc 3),dC (dd 4),nmC (cc 4),dC (dd 5),nmC (cc 5)]
noncomputable def mailC (dd cc:Nat→Nat):List Nat:=mailFrom (wsM dd cc)
structure ROk (W o:Nat→Nat)(N:Nat)(dd cc pos:Nat→Nat):Prop where
  z:ZOk W o N (mailC dd cc)
  d:∀ i,i<6→1≤dd i∧dd i≤6
  perm:[cc 0,cc 1,cc 2,cc 3,cc 4,cc 5].Perm six0
  pos:∀ k,k<6→pos k<6∧cc (pos k)=k
  n:(N:Int)=((W 0:Nat):Int)+((W 1:Nat):Int)+((W 2:Nat):Int)+((W 3:Nat):Int)+((W 4:Nat):Int)+((W 5:Nat):Int)
theorem d_word {n:Nat}(h:1≤n):WordOk (dC n):=by
  unfold dC
  obtain ⟨m,rfl⟩:∃ m,n=m+1:=⟨n-1,by omega⟩
  refine ⟨by simp,by rw [List.replicate_succ];simp,fun c hc=>?_⟩
  rw [List.eq_of_mem_replicate hc]
  decide
theorem d_len (n:Nat):(dC n).length=n:=List.length_replicate
noncomputable def mC (dd cc:Nat→Nat)(j:Nat):List Nat:=match j with
  | 0=>mailFrom (wsM dd cc)
  | j+1=>match (wsM dd cc).drop (j+1) with
    | []=>[]
    | w::ws=>10::mailFrom (w::ws)
noncomputable def rowC (dd cc:Nat→Nat)(j:Nat):List Nat:=(wsM dd cc).getD j []
noncomputable def shM (dd cc:Nat→Nat):Nat→Nat
  | 0=>0
  | 1=>(rowC dd cc 0).length+1
  | j+2=>shM dd cc (j+1)+((rowC dd cc (j+1)).length+2)
noncomputable def MM (dd cc f:Nat→Nat)(j:Nat):List Value:=chV (mC dd cc j) fun i=>f (i+shM dd cc j)
noncomputable def EM (dd cc:Nat→Nat)(e:Nat):Nat→Nat
  | 0=>e
  | 1=>e+(rowC dd cc 0).length+1
  | 11+1=>EM dd cc e 11+1+(rowC dd cc 11).length
  | j+2=>EM dd cc e (j+1)+1+(rowC dd cc (j+1)).length+1
theorem mC_small {dd cc:Nat→Nat}(hd:∀ i,i<6→1≤dd i∧dd i≤6)(j:Nat):(mC dd cc j).length≤72:=by
  have h0:=nm_len (cc 0);have h1:=nm_len (cc 1);have h2:=nm_len (cc 2);have h3:=nm_len (cc 3);have h4:=nm_len (cc 4);have h5:=nm_len (cc 5)
  have d0:=hd 0 (by decide);have d1:=hd 1 (by decide);have d2:=hd 2 (by decide);have d3:=hd 3 (by decide);have d4:=hd 4 (by decide);have d5:=hd 5 (by decide)
  have key:∀ ws:List (List Nat),(mailFrom ws).length+2≤(ws.map fun w=>w.length+2).sum∨ws=[]:=by
    intro ws
    induction ws with
    | nil=>exact .inr rfl
    | cons w ws ih =>
      left
      cases ws with
      | nil=>simp [mailFrom]
      | cons x xs =>
        rcases ih with h | h
        · rw [mailFrom,List.length_append,List.length_cons,List.length_cons,List.map_cons,List.sum_cons]
          · omega
          · simp
        · cases h
  have all:((wsM dd cc).map fun w=>w.length+2).sum≤72:=by
    unfold wsM
    simp only [List.map_cons,List.map_nil,List.sum_cons,List.sum_nil,d_len]
    omega
  have sub:∀ k,(((wsM dd cc).drop k).map fun w=>w.length+2).sum≤72:=fun k=>by
    have:=congrArg List.sum (congrArg (List.map fun w:List Nat=>w.length+2) (List.take_append_drop k (wsM dd cc)))
    rw [List.map_append,List.sum_append] at this
    omega
  match j with
  | 0 =>
    show (mailFrom (wsM dd cc)).length≤72
    rcases key (wsM dd cc) with h | h
    · omega
    · cases h
  | j+1 =>
    unfold mC
    dsimp only
    have s1:=sub (j+1)
    rcases key ((wsM dd cc).drop (j+1)) with h | h
    · cases q:(wsM dd cc).drop (j+1) with
      | nil=>simp
      | cons w ws=>rw [q] at h s1;dsimp only;rw [List.length_cons];omega
    · rw [h];simp
theorem MM_small {dd cc:Nat→Nat}(hd:∀ i,i<6→1≤dd i∧dd i≤6)(f:Nat→Nat)(j:Nat):(MM dd cc f j).length<sizeLine:=by
  unfold MM
  rw [chV_len]
  have:=mC_small (cc:=cc) hd j
  have:=sizeLine_eq
  omega
theorem row_word {dd cc:Nat→Nat}(hd:∀ i,i<6→1≤dd i∧dd i≤6){j:Nat}(hj:j<12):WordOk (rowC dd cc j):=by
  match j,hj with
  | 0,_=>exact d_word (hd 0 (by decide)).1
  | 1,_=>exact nm_word _
  | 2,_=>exact d_word (hd 1 (by decide)).1
  | 3,_=>exact nm_word _
  | 4,_=>exact d_word (hd 2 (by decide)).1
  | 5,_=>exact nm_word _
  | 6,_=>exact d_word (hd 3 (by decide)).1
  | 7,_=>exact nm_word _
  | 8,_=>exact d_word (hd 4 (by decide)).1
  | 9,_=>exact nm_word _
  | 10,_=>exact d_word (hd 5 (by decide)).1
  | 11,_=>exact nm_word _
theorem mail_cut0 {dd cc:Nat→Nat}(hd:∀ i,i<6→1≤dd i∧dd i≤6)(f:Nat→Nat)(e:Nat):CutA (MM dd cc f 0) (MM dd cc f 1) (EM dd cc e 0) (EM dd cc e 1) (lS (rowC dd cc 0)) :=
  ⟨MM_small hd f 0,.inl ⟨rowC dd cc 0,fun i=>f (i+0),13,10::mailFrom ((wsM dd cc).drop 1),row_word hd (by decide),.inr rfl,rfl,by
    unfold MM
    rfl,rfl,rfl⟩⟩
theorem mail_cut {dd cc:Nat→Nat}(hd:∀ i,i<6→1≤dd i∧dd i≤6)(f:Nat→Nat)(e j:Nat)(h1:1≤j)(hj:j<12):CutB (MM dd cc f j) (MM dd cc f (j+1)) (EM dd cc e j) (EM dd cc e (j+1)) (lS (rowC dd cc j)):=by
  have step:∀ (j:Nat) (x:List Nat) (ws:List (List Nat)),j<12→(wsM dd cc).drop (j+1)=x::ws→(wsM dd cc).drop j=rowC dd cc j::x::ws→1≤j→EM dd cc e (j+1)=EM dd cc e j+1+(rowC dd cc j).length+1→shM dd cc (j+1)=shM dd cc j+((rowC dd cc j).length+2) →
      CutB (MM dd cc f j) (MM dd cc f (j+1)) (EM dd cc e j) (EM dd cc e (j+1)) (lS (rowC dd cc j)):=by
    intro j x ws hj a1 a2 a3 a4 a5
    obtain ⟨k,rfl⟩:∃ k,j=k+1:=⟨j-1,by omega⟩
    have m1:mC dd cc (k+1)=10::(rowC dd cc (k+1)++13::10::mailFrom (x::ws)):=by
      show (match (wsM dd cc).drop (k+1) with | []=>[] | w::ws=>10::mailFrom (w::ws))=_
      rw [a2]
      rfl
    have m2:mC dd cc (k+1+1)=10::mailFrom (x::ws):=by
      show (match (wsM dd cc).drop (k+1+1) with | []=>[] | w::ws=>10::mailFrom (w::ws))=_
      rw [a1]
    have e1:MM dd cc f (k+1)=.str ⟨#[10]⟩ (f (0+shM dd cc (k+1)))::chV (rowC dd cc (k+1)++13::10::mailFrom (x::ws)) (fun i=>f (i+1+shM dd cc (k+1))):=by
      unfold MM
      rw [m1]
      rfl
    refine ⟨_,_,MM_small hd f (k+1),e1,?_,.inl ⟨rowC dd cc (k+1),_,13,10::mailFrom (x::ws),row_word hd hj,.inr rfl,rfl,?_,a4,rfl⟩⟩
    · have:=MM_small (cc:=cc) hd f (k+1)
      rw [e1,List.length_cons] at this
      omega
    · unfold MM
      rw [m2,a5]
      congr 1
      funext i
      show f _=f _
      congr 1
      omega
  match j,h1,hj with
  | 1,_,_=>exact step 1 _ _ (by decide) rfl rfl (by decide) rfl rfl
  | 2,_,_=>exact step 2 _ _ (by decide) rfl rfl (by decide) rfl rfl
  | 3,_,_=>exact step 3 _ _ (by decide) rfl rfl (by decide) rfl rfl
  | 4,_,_=>exact step 4 _ _ (by decide) rfl rfl (by decide) rfl rfl
  | 5,_,_=>exact step 5 _ _ (by decide) rfl rfl (by decide) rfl rfl
  | 6,_,_=>exact step 6 _ _ (by decide) rfl rfl (by decide) rfl rfl
  | 7,_,_=>exact step 7 _ _ (by decide) rfl rfl (by decide) rfl rfl
  | 8,_,_=>exact step 8 _ _ (by decide) rfl rfl (by decide) rfl rfl
  | 9,_,_=>exact step 9 _ _ (by decide) rfl rfl (by decide) rfl rfl
  | 10,_,_=>exact step 10 _ _ (by decide) rfl rfl (by decide) rfl rfl
  | 11,_,_ =>
    refine ⟨f (0+shM dd cc 11),chV (rowC dd cc 11) (fun i=>f (i+1+shM dd cc 11)),MM_small hd f 11,rfl,?_,.inr ⟨rowC dd cc 11,_,row_word hd (by decide),rfl,rfl,rfl,rfl⟩⟩
    have:=MM_small (cc:=cc) hd f 11
    rw [show MM dd cc f 11=.str ⟨#[10]⟩ (f (0+shM dd cc 11))::chV (rowC dd cc 11) (fun i=>f (i+1+shM dd cc 11)) from rfl,List.length_cons] at this
    omega
end
section
open PySem PySem.W PySem.W.X PySem.Spec PySem.Calls
set_option maxHeartbeats 0
noncomputable def lwC3:Expr:=asgE (stOf 11)
noncomputable def X_told (Pw:Params)(p:SP)(tn:Nat)(f:Nat→Nat)(e0 N:Nat)(dd cc:Nat→Nat)(tl fr:Nat):Spec:={ n0:=13,k:=0,nt:=15,d:=400,code:=fun J=>.compLoop lwC3 0 (.ref (J 1)) (.ref (J 2)) (cEnv (lwF fr) lwC3 (J 0) [(sReader,J 3)]),pre:=fun J=>([dic [] 0,riO (.int 0 0) (.int 13 0) (.int 1 0),lst [] 0,cellO (.ref (J 4))]++strm p J 4 (.int 1 tn) (J 12) (MM dd cc f 0) (EM dd cc e0 0)++[lst [.str (txS (N,mailC dd cc)) tl] 1]),res:=fun J Z=>.ok .next,post:=fun J Z=>([dic [⟨hsh Pw sKk,.str sKk (Z 12),.int 12 (Z 13)⟩] 1,riO (.int 13 0) (.int 0 0) (.int 1 0),lst [.str (txS (N,mailC dd cc)) tl,.str (lS (dC (dd 0))) (Z 0),.str (nmS (cc 0)) (Z 1),.str (lS (dC (dd 1))) (Z 2),.str (nmS (cc 1)) (Z 3),.str (lS (dC (dd 2))) (Z 4),.str (nmS (cc 2)) (Z 5),.str (lS (dC (dd 3))) (Z 6),.str (nmS (cc 3)) (Z 7),.str (lS (dC (dd 4))) (Z 8),.str (nmS (cc 4)) (Z 9),.str (lS (dC (dd 5))) (Z 10),.str (nmS (cc 5)) (Z 11)] 13,cellO (.ref (J 4))]++strm p J 4 (.int 12 (Z 14)) (J 12) [] (EM dd cc e0 12)++[lst [] (1+1)]),new:=fun J Z=>[] }
noncomputable def told_hs (b1 b2:Bool):List Nat:=[2,2,2,2,2,2,2,2,2,1,1,4,5,0,0,0,5,0,0,0,5,0,0,0,0,5,6,0,3,3,3,3,2,2,2,2,2,2,2,2,2,1,1,4,5,0,0,0,5,0,0,0,5,0,0,0,0,5,6,0,3,3,3,3,2,2,2,2,2,2,2,2,2,1,1,4,5,0,0,0,5,0,0,0,5,0,0,0,0,5,6,0,3,3,3,3,2,2,2,2,2,2,2,2,2,1,1,4,5,0,0,0,5,0,0,0,5,0,0,0,0,5,6,0,3,3,3,3,2,2,2,2,2,2,2,2,2,1,1,4,5,0,0,0,5,0,0,0,5,0,0,0,0,5,6,0,3,3,3,3,2,2,2,2,2,2,2,2,2,1,1,4,5,0,0,0,5,0,0,0,5,0,0,0,0,5,6,0,3,3,3,3,2,2,2,2,2,2,2,2,2,1,1,4,5,0,0,0,5,0,0,0,5,0,0,0,0,5,6,0,3,3,3,3,2,2,2,2,2,2,2,2,2,1,1,4,5,0,0,0,5,0,0,0,5,0,0,0,0,5,6,0,3,3,3,3,2,2,2,2,2,2,2,2,2,1,1,4,5,0,0,0,5,0,0,0,5,0,0,0,0,5,6,0,3,3,3,3,2,2,2,2,2,2,2,2,2,1,1,4,5,0,0,0,5,0,0,0,5,0,0,0,0,5,6,0,3,3,3,3,2,2,2,2,2,2,2,2,2,1,1,4,5,0,0,0,5,0,0,0,5,0,0,0,0,5,6,0,3,3,3,3,2,2,2,2,2,2,2,2,2,1,1,4,5,0,0,0,5,0,0,0,5,0,0,0,0,5,6,0,3,3,3,3,2,2,2,2,2,2,2,2,2,1,1,4,5,0,0,0,5,0,0,0,5,0,0,0,0,5,6,0,3,3,3,3,2,2,2,2,2,15]
noncomputable def told_cs (Pw:Params)(p:SP)(tn:Nat)(f:Nat→Nat)(e0 N:Nat)(dd cc:Nat→Nat)(tl fr:Nat)(b1 b2:Bool):List Ev:=[evX (fun J Z=>X_gtpop p.hf p.tf (.int 1 tn) (.ref (J 6)) 1 p.e1 [] (txS (N,mailC dd cc)) tl []) [4,5,12] 2 13 2,evX (fun J Z=>X_gtA p 1 tn (EM dd cc e0 0) (1+1) (MM dd cc f 0) (MM dd cc f 1) (EM dd cc e0 1) (lS (rowC dd cc 0))) [4,5,6,7,8,9,10,11,12] 5 13 4,evX (fun J Z=>X_gtB p 1 tn (EM dd cc e0 1) (1+1) (MM dd cc f 1) (MM dd cc f 2) (EM dd cc e0 2) (lS (rowC dd cc 1))) [4,5,6,7,8,9,10,11,12] 5 13 7,evX (fun J Z=>X_gtB p 2 (Z 8) (EM dd cc e0 2) (1+1) (MM dd cc f 2) (MM dd cc f 3) (EM dd cc e0 3) (lS (rowC dd cc 2))) [4,5,6,7,8,9,10,11,12] 5 13 11,evX (fun J Z=>X_gtB p 3 (Z 12) (EM dd cc e0 3) (1+1) (MM dd cc f 3) (MM dd cc f 4) (EM dd cc e0 4) (lS (rowC dd cc 3))) [4,5,6,7,8,9,10,11,12] 5 13 15,evX (fun J Z=>X_gtB p 4 (Z 16) (EM dd cc e0 4) (1+1) (MM dd cc f 4) (MM dd cc f 5) (EM dd cc e0 5) (lS (rowC dd cc 4))) [4,5,6,7,8,9,10,11,12] 5 13 19,evX (fun J Z=>X_gtB p 5 (Z 20) (EM dd cc e0 5) (1+1) (MM dd cc f 5) (MM dd cc f 6) (EM dd cc e0 6) (lS (rowC dd cc 5))) [4,5,6,7,8,9,10,11,12] 5 13 23,evX (fun J Z=>X_gtB p 6 (Z 24) (EM dd cc e0 6) (1+1) (MM dd cc f 6) (MM dd cc f 7) (EM dd cc e0 7) (lS (rowC dd cc 6))) [4,5,6,7,8,9,10,11,12] 5 13 27,evX (fun J Z=>X_gtB p 7 (Z 28) (EM dd cc e0 7) (1+1) (MM dd cc f 7) (MM dd cc f 8) (EM dd cc e0 8) (lS (rowC dd cc 7))) [4,5,6,7,8,9,10,11,12] 5 13 31,evX (fun J Z=>X_gtB p 8 (Z 32) (EM dd cc e0 8) (1+1) (MM dd cc f 8) (MM dd cc f 9) (EM dd cc e0 9) (lS (rowC dd cc 8))) [4,5,6,7,8,9,10,11,12] 5 13 35,evX (fun J Z=>X_gtB p 9 (Z 36) (EM dd cc e0 9) (1+1) (MM dd cc f 9) (MM dd cc f 10) (EM dd cc e0 10) (lS (rowC dd cc 9))) [4,5,6,7,8,9,10,11,12] 5 13 39,evX (fun J Z=>X_gtB p 10 (Z 40) (EM dd cc e0 10) (1+1) (MM dd cc f 10) (MM dd cc f 11) (EM dd cc e0 11) (lS (rowC dd cc 10))) [4,5,6,7,8,9,10,11,12] 5 13 43,evX (fun J Z=>X_gtB p 11 (Z 44) (EM dd cc e0 11) (1+1) (MM dd cc f 11) (MM dd cc f 12) (EM dd cc e0 12) (lS (rowC dd cc 11))) [4,5,6,7,8,9,10,11,12] 5 13 47]
theorem run_told (p:SP)(tn:Nat)(f:Nat→Nat)(e0 N:Nat)(dd cc:Nat→Nat)(tl fr:Nat)(Pw:Params):∀ (b1 b2:Bool) (J Z:Nu),RD (X_told Pw p tn f e0 N dd cc tl fr) Pw b1 b2 696 (told_hs b1 b2) (told_cs Pw p tn f e0 N dd cc tl fr b1 b2) [] [4,7,11,15,19,23,27,31,35,39,43,47,1,45,48] J Z
  | true,b2,J,Z=>by kernel_rfl
  | false,b2,J,Z=>by kernel_rfl
theorem ok_told (w:World){p:SP}{tn:Nat}{f:Nat→Nat}{e0 N:Nat}{dd cc:Nat→Nat}{tl fr:Nat}{W o pos:Nat→Nat}(r:ROk W o N dd cc pos):(X_told w.params p tn f e0 N dd cc tl fr).Ok w :=
  ok_of_run (hs:=told_hs (row1 w) (row2 w)) (cs:=told_cs w.params p tn f e0 N dd cc tl fr (row1 w) (row2 w)) (ns:=[]) (ts:=[4,7,11,15,19,23,27,31,35,39,43,47,1,45,48]) (vc (fun J Z=>ok_gtpop w (by decide)) rfl (vc (fun J Z=>ok_gtA (mail_cut0 r.d f e0)) rfl (vc (fun J Z=>ok_gtB (mail_cut r.d f e0 1 (by decide) (by decide))) rfl (vc (fun J Z=>ok_gtB (mail_cut r.d f e0 2 (by decide) (by decide))) rfl (vc (fun J Z=>ok_gtB (mail_cut r.d f e0 3 (by decide) (by decide))) rfl (vc (fun J Z=>ok_gtB (mail_cut r.d f e0 4 (by decide) (by decide))) rfl (vc (fun J Z=>ok_gtB (mail_cut r.d f e0 5 (by decide) (by decide))) rfl (vc (fun J Z=>ok_gtB (mail_cut r.d f e0 6 (by decide) (by decide))) rfl (vc (fun J Z=>ok_gtB (mail_cut r.d f e0 7 (by decide) (by decide))) rfl (vc (fun J Z=>ok_gtB (mail_cut r.d f e0 8 (by decide) (by decide))) rfl (vc (fun J Z=>ok_gtB (mail_cut r.d f e0 9 (by decide) (by decide))) rfl (vc (fun J Z=>ok_gtB (mail_cut r.d f e0 10 (by decide) (by decide))) rfl (vc (fun J Z=>ok_gtB (mail_cut r.d f e0 11 (by decide) (by decide))) rfl (va_nil)))))))))))))) rfl rfl (by decide) (show ∀ j∈([]:List Nat),13≤j by decide) (run_told p tn f e0 N dd cc tl fr w.params (row1 w) (row2 w))
end
section
open PySem PySem.W PySem.W.X PySem.Spec PySem.Calls PyProof.Rows
set_option maxHeartbeats 1000000
noncomputable def qN:Nat→Str
  | 0=>nmS 2
  | 1=>nmS 0
  | 2=>nmS 1
  | 3=>nmS 3
  | 4=>nmS 4
  | _=>nmS 5
noncomputable def rk (s:Str):Nat:=match s.cps.toList with
  | [35]=>0
  | [97]=>1
  | [98,34]=>2
  | [100]=>3
  | [101]=>4
  | _=>5
theorem names_lt:∀ i,i<6→∀ j,j<6→ltCps (nmS i).cps.toList (nmS j).cps.toList=decide (rk (nmS i)<rk (nmS j)):=by decide +kernel
theorem names_rk:∀ i,i<6→rk (nmS i)<6∧qN (rk (nmS i))=nmS i:=by decide +kernel
theorem rising_rk:∀ (l:List Str) (p:Str),(∀ s∈p::l,∃ i,i<6∧s=nmS i)→risingS p l=true→((p::l).map rk).Pairwise (·≤·)
  | [],p,_,_=>by simp
  | x::l,p,h,hr=>by
    have hr':(!ltCps x.cps.toList p.cps.toList&&risingS x l)=true:=hr
    rw [Bool.and_eq_true] at hr'
    obtain ⟨h1,h2⟩:=hr'
    have ih:=rising_rk l x (fun s hs=>h s (mO hs)) h2
    obtain ⟨i,hi,ei⟩:=h p mS
    obtain ⟨j,hj,ej⟩:=h x (mO mS)
    have le:rk p≤rk x:=by
      rw [ei,ej,names_lt j hj i hi] at h1
      rw [ei,ej]
      simpa using h1
    rw [List.map_cons,List.map_cons,List.pairwise_cons]
    refine ⟨fun y hy=>?_,ih⟩
    rcases mQ hy with rfl | hy
    · exact le
    · exact Nat.le_trans le ((List.pairwise_cons.mp ih).1 y hy)
theorem up6 {a b c d e f:Nat}(h1:a<b)(h2:b<c)(h3:c<d)(h4:d<e)(h5:e<f)(h6:f<6):a=0∧b=1∧c=2∧d=3∧e=4∧f=5:=by
  obtain rfl:f=5:=by omega
  obtain rfl:e=4:=by omega
  obtain rfl:d=3:=by omega
  obtain rfl:c=2:=by omega
  obtain rfl:b=1:=by omega
  exact ⟨by omega,rfl,rfl,rfl,rfl,rfl⟩
theorem sort_names {cc:Nat→Nat}(hp:[cc 0,cc 1,cc 2,cc 3,cc 4,cc 5].Perm six0):∀ ss:List Str,ss.Perm [nmS (cc 0),nmS (cc 1),nmS (cc 2),nmS (cc 3),nmS (cc 4),nmS (cc 5)]→sortedS ss=true→ss=[qN 0,qN 1,qN 2,qN 3,qN 4,qN 5]:=by
  intro ss h1 h2
  have h3:ss.Perm (six0.map nmS):=h1.trans (hp.map nmS)
  have hn:∀ s∈ss,∃ i,i<6∧s=nmS i:=fun s hs=>by
    obtain ⟨i,hi,e⟩:=List.mem_map.mp (h3.mem_iff.mp hs)
    exact ⟨i,lt6.mp hi,e.symm⟩
  have hl:ss.length=6:=h3.length_eq
  have hr:(ss.map rk).Perm [1,2,0,3,4,5]:=(h3.map rk).trans (by decide +kernel)
  have nd:(ss.map rk).Nodup:=hr.nodup_iff.mpr (by decide)
  obtain ⟨s0,s1,s2,s3,s4,s5,rfl⟩:=list6 hl
  have pw:=rising_rk [s1,s2,s3,s4,s5] s0 hn h2
  simp only [List.map_cons,List.map_nil,List.pairwise_cons,List.mem_cons,List.not_mem_nil,or_false,forall_eq_or_imp,forall_eq,List.Pairwise.nil,and_true] at pw
  simp only [List.map_cons,List.map_nil,List.nodup_cons,List.mem_cons,List.not_mem_nil,or_false,not_or,List.nodup_nil,and_true] at nd
  have up:∀ s∈[s0,s1,s2,s3,s4,s5],rk s<6∧qN (rk s)=s:=fun s hs=>by
    obtain ⟨i,hi,e⟩:=hn s hs
    rw [e]
    exact names_rk i hi
  obtain ⟨u0,q0⟩:=up s0 (by simp)
  obtain ⟨u1,q1⟩:=up s1 (by simp)
  obtain ⟨u2,q2⟩:=up s2 (by simp)
  obtain ⟨u3,q3⟩:=up s3 (by simp)
  obtain ⟨u4,q4⟩:=up s4 (by simp)
  obtain ⟨u5,q5⟩:=up s5 (by simp)
  obtain ⟨⟨p0,_⟩,⟨p1,_⟩,⟨p2,_⟩,⟨p3,_⟩,p4,_⟩:=pw
  obtain ⟨⟨n0,_⟩,⟨n1,_⟩,⟨n2,_⟩,⟨n3,_⟩,n4,_⟩:=nd
  have c0:=Nat.lt_of_le_of_ne p0 n0
  have c1:=Nat.lt_of_le_of_ne p1 n1
  have c2:=Nat.lt_of_le_of_ne p2 n2
  have c3:=Nat.lt_of_le_of_ne p3 n3
  have c4:=Nat.lt_of_le_of_ne p4 n4
  obtain ⟨r0,r1,r2,r3,r4,r5⟩:=up6 c0 c1 c2 c3 c4 u5
  rw [r0] at q0;rw [r1] at q1;rw [r2] at q2;rw [r3] at q3;rw [r4] at q4;rw [r5] at q5
  rw [q0,q1,q2,q3,q4,q5]
theorem id_perm:[(0:Nat),1,2,3,4,5].Perm six0:=List.Perm.refl _
noncomputable def dSum (dd:Nat→Nat):Nat:=dd 0+dd 1+dd 2+dd 3+dd 4+dd 5
theorem glued_dots (dd:Nat→Nat):Builtin.Str.glued ⟨#[]⟩ [lS (dC (dd 0)),lS (dC (dd 1)),lS (dC (dd 2)),lS (dC (dd 3)),lS (dC (dd 4)),lS (dC (dd 5))]=lS (dC (dSum dd)):=by
  refine str_ext ?_
  show ((lS (dC (dd 0))).cps++#[]++(lS (dC (dd 1))).cps++#[]++(lS (dC (dd 2))).cps++#[]++(lS (dC (dd 3))).cps++#[]++(lS (dC (dd 4))).cps++#[]++(lS (dC (dd 5))).cps).toList=dC (dSum dd)
  simp only [Array.toList_append,lS_list,List.append_nil,dC,List.replicate_append_replicate]
  rfl
theorem glued_mail (dd cc:Nat→Nat):Builtin.Str.glued ⟨#[13,10]⟩ [lS (dC (dd 0)),nmS (cc 0),lS (dC (dd 1)),nmS (cc 1),lS (dC (dd 2)),nmS (cc 2),lS (dC (dd 3)),nmS (cc 3),lS (dC (dd 4)),nmS (cc 4),lS (dC (dd 5)),nmS (cc 5)]=lS (mailC dd cc):=by
  refine str_ext ?_
  show ((lS (dC (dd 0))).cps++#[13,10]++(nmS (cc 0)).cps++#[13,10]++(lS (dC (dd 1))).cps++#[13,10]++(nmS (cc 1)).cps++#[13,10]++(lS (dC (dd 2))).cps++#[13,10]++(nmS (cc 2)).cps++#[13,10]++(lS (dC (dd 3))).cps++#[13,10]++(nmS (cc 3)).cps++#[13,10]++(lS (dC (dd 4))).cps++#[13,10]++(nmS (cc 4)).cps++#[13,10]++(lS (dC (dd 5))).cps++#[13,10]++(nmS (cc 5)).cps).toList=mailFrom (wsM dd cc)
  have h:∀ k,(nmS k).cps.toList=nmC k:=fun _=>rfl
  simp only [Array.toList_append,lS_list,h]
  unfold wsM
  simp only [mailFrom,List.append_assoc,List.cons_append,List.nil_append]
theorem ok_stripL {w:World}{n t u:Nat}:(X_strip (lS (dC n)) t u).Ok w:=by
  have e:lS (dC n)=dotS n:=str_ext (by
    show dC n=(Array.replicate n 46).toList
    rw [Array.toList_replicate];rfl)
  rw [e]
  exact ok_stripD
theorem fold_dots {dd:Nat→Nat}(hd:∀ i,i<6→1≤dd i∧dd i≤6):[lS (dC (dd 0)),lS (dC (dd 1)),lS (dC (dd 2)),lS (dC (dd 3)),lS (dC (dd 4)),lS (dC (dd 5))].toArray.foldl (·+·.length+(⟨#[]⟩:Str).length) 0≤sizeLine∧(lS (dC (dSum dd))).length≤sizeLine:=by
  have d0:=hd 0 (by decide);have d1:=hd 1 (by decide);have d2:=hd 2 (by decide);have d3:=hd 3 (by decide);have d4:=hd 4 (by decide);have d5:=hd 5 (by decide)
  have:=sizeLine_eq
  constructor
  · rw [List.foldl_toArray]
    simp only [List.foldl_cons,List.foldl_nil,lS_len,d_len,show (⟨#[]⟩:Str).length=0 from rfl]
    omega
  · rw [lS_len,d_len]
    unfold dSum
    omega
theorem fold_mail {dd:Nat→Nat}(cc:Nat→Nat)(hd:∀ i,i<6→1≤dd i∧dd i≤6):[lS (dC (dd 0)),nmS (cc 0),lS (dC (dd 1)),nmS (cc 1),lS (dC (dd 2)),nmS (cc 2),lS (dC (dd 3)),nmS (cc 3),lS (dC (dd 4)),nmS (cc 4),lS (dC (dd 5)),nmS (cc 5)].toArray.foldl (·+·.length+(⟨#[13,10]⟩:Str).length) 0≤sizeLine:=by
  have d0:=hd 0 (by decide);have d1:=hd 1 (by decide);have d2:=hd 2 (by decide);have d3:=hd 3 (by decide);have d4:=hd 4 (by decide);have d5:=hd 5 (by decide)
  have h0:=nm_len (cc 0);have h1:=nm_len (cc 1);have h2:=nm_len (cc 2);have h3:=nm_len (cc 3);have h4:=nm_len (cc 4);have h5:=nm_len (cc 5)
  have:=sizeLine_eq
  rw [List.foldl_toArray]
  simp only [List.foldl_cons,List.foldl_nil,lS_len,d_len,nmS,show (⟨#[13,10]⟩:Str).length=2 from rfl]
  omega
theorem len_diff (N:Nat)(M:List Nat):((txS (N,M)).length:Int)-((lS M).length:Int)=(N:Int):=by
  rw [tx_len,lS_len]
  show ((N+M.length:Nat):Int)-_=_
  omega
theorem ne_self (s:Str):(s.cps.toList != s.cps.toList)=false:=by simp
end
section
open PySem PySem.W PySem.W.X PySem.Spec PySem.Calls
set_option maxHeartbeats 0
theorem ZOk.long {W o:Nat→Nat}{N:Nat}{M:List Nat}(h:OOk W o)(z:ZOk W o N M):(txS (N,M)).length≤sizeLine:=by
  have k:=z.ok h
  have h1:=lb5
  have h2:=sizeLine_eq
  have h3:M.length≤lb 5:=k.l
  have h4:N≤30*2 ^ 5:=k.w
  rw [tx_len]
  show N+M.length≤_
  omega
theorem sum_eq {W:Nat→Nat}{N:Nat}(h:(N:Int)=((W 0:Nat):Int)+((W 1:Nat):Int)+((W 2:Nat):Int)+((W 3:Nat):Int)+((W 4:Nat):Int)+((W 5:Nat):Int))(f:Nat→Nat):((N:Int) != ((wI W f).map (·.1)).sum)=false:=by
  have:((wI W f).map (·.1)).sum=(N:Int):=by
    rw [h]
    show ((W 0:Nat):Int)+(((W 1:Nat):Int)+(((W 2:Nat):Int)+(((W 3:Nat):Int)+(((W 4:Nat):Int)+(((W 5:Nat):Int)+0)))))=_
    omega
  rw [this]
  simp
noncomputable def X_pD1 (Pw:Params)(v:List Iv)(W o a b c:Nat→Nat)(N:Nat)(dd cc:Nat→Nat):Spec:={ n0:=54,k:=3,nt:=25,d:=330,code:=fun J=>.func lwB (lwE J),pre:=fun J=>[tbF 183 (J 0) [.int 91 0,.int 18 0,.ref (J 27)],tbF 209 (J 1) [.int 121 0,.int 33 0,.ref (J 14)],ro v 0,frm [⟨hsh Pw sOrder,.str sOrder (a 14),.ref (J 13)⟩,⟨hsh Pw sLine,.str sLine (b 0),.ref (J 20)⟩,⟨hsh Pw sPile,.str sPile (b 1),.ref (J 36)⟩,⟨hsh Pw sKk,.str sKk (b 2),.int (o 5:Nat) (a 6)⟩,⟨hsh Pw sLast,.str sLast (c 0),.str (txS (N,(mailC dd cc))) (c 1)⟩,⟨hsh Pw sMail,.str sMail (c 2),.str (lS (mailC dd cc)) (c 3)⟩] 6,cellO (.ref (J 2)),cellO (.ref (J 11)),cellO (.ref (J 44)),cell0,cell0,cell0,cellO (.ref (J 12)),lst [.str ⟨#[97]⟩ (a 15),.str ⟨#[98,34]⟩ (a 16),.str ⟨#[35]⟩ (a 17),.str ⟨#[100]⟩ (a 18),.str ⟨#[101]⟩ (a 19),.str ⟨#[102]⟩ (a 20)] 0,ro (wI W (fun j=>a (j+8))) 6,ro (oI o (fun j=>a (j+1))) (a 7),codO (.str sLambda (a 21)) sKeyQ (a 22) (codR 121 33 (a 23) (J 15) (J 16) (J 17) (J 18) (J 19) (a 26) (a 27)),tupT [.str sWeights (a 24)],tbl [],tupT [.str sKk (a 25)],tupT [],tmpO sKeyQ lamK,lexO (J 21),lexD (hLex Pw) (fLex (b 4) (b 5) (b 6) (b 7) (b 8) 0) (.int 1 (b 3)) (.ref (J 23)) (J 22) [] 4,lst [.str (lS (mailC dd cc)) (c 3)] ((c 23)+1+1),lexO (J 24),lexD (hLex Pw) (fLex (b 10) (b 11) (b 12) (b 13) (b 14) (b 15)) (.int 1 (b 9)) .none (J 25) [⟨hsh Pw sRead,.str sRead (b 15),.ref (J 26)⟩] 5,lst [] 0,lamO lamP (J 28) (J 27) (J 29),codO (.str sLambda (b 16)) sLamQ (b 17) (codR 91 18 (b 18) (J 30) (J 31) (J 32) (J 33) (J 34) (b 21) (b 22)),cellO (.ref (J 35)),tupT [.ref (J 28)],tupT [.str sLeft (b 19)],tbl [],tupT [.str sSize (b 20)],tupT [],tmpO sLamQ lamP,lst [] (EE o (b 36) 6),accO (J 37) [] (c 24),accD (hsh Pw sInit) (b 23) 305,tupO [.str (sp (W (o 0))) (b 24),.str (lS (46::10::nmC (o 0))) (b 25)],tupO [.str (sp (W (o 1))) (b 26),.str (lS (46::10::nmC (o 1))) (b 27)],tupO [.str (sp (W (o 2))) (b 28),.str (lS (46::10::nmC (o 2))) (b 29)],tupO [.str (sp (W (o 3))) (b 30),.str (lS (46::10::nmC (o 3))) (b 31)],tupO [.str (sp (W (o 4))) (b 32),.str (lS (46::10::nmC (o 4))) (b 33)],tupO [.str (sp (W (o 5))) (b 34),.str (lS (46::10::nmC (o 5))) (b 35)],lexO (J 45),lexD (hLex Pw) (fLex (c 5) (c 6) (c 7) (c 8) (c 9) 0) (.int 1 (c 4)) (.ref (J 47)) (J 46) [] 4,lst [.str (txS (N,(mailC dd cc))) (c 1)] 1,lexO (J 48),lexD (hLex Pw) (fLex (c 11) (c 12) (c 13) (c 14) (c 15) (c 16)) (.int 1 (c 10)) .none (J 49) [⟨hsh Pw sRead,.str sRead (c 16),.ref (J 50)⟩] 5,lst [] 0,lamO lamP (J 51) (J 27) (J 52),cellO (.ref (J 53)),tupT [.ref (J 51)],lst (chV (mailC dd cc) (dcd (c 17) (c 18))) (c 19)],res:=fun J Z=>.ok .next,post:=fun J Z=>[tbF 183 (J 0) [.int 91 0,.int 18 0,.ref (J 27)],tbF 209 (J 1) [.int 121 0,.int 33 0,.ref (J 14)],ro v 0,frm [⟨hsh Pw sOrder,.str sOrder (a 14),.ref (J 13)⟩,⟨hsh Pw sLine,.str sLine (b 0),.ref (J 20)⟩,⟨hsh Pw sPile,.str sPile (b 1),.ref (J 36)⟩,⟨hsh Pw sKk,.str sKk (b 2),.int (o 5:Nat) (a 6)⟩,⟨hsh Pw sLast,.str sLast (c 0),.str (txS (N,(mailC dd cc))) (c 1)⟩,⟨hsh Pw sMail,.str sMail (c 2),.str (lS (mailC dd cc)) (c 3)⟩,⟨hsh Pw sDots,.str sDots (Z 0),.str ⟨#[]⟩ (Z 1)⟩,⟨hsh Pw sRows,.str sRows (Z 2),.ref (J 55)⟩] 8,cellO (.ref (J 2)),cellO (.ref (J 11)),cellO (.ref (J 44)),cellO (.ref (J 54)),cell0,cell0,cellO (.ref (J 12)),lst [.str ⟨#[97]⟩ (a 15),.str ⟨#[98,34]⟩ (a 16),.str ⟨#[35]⟩ (a 17),.str ⟨#[100]⟩ (a 18),.str ⟨#[101]⟩ (a 19),.str ⟨#[102]⟩ (a 20)] 0,ro (wI W (fun j=>a (j+8))) 6,ro (oI o (fun j=>a (j+1))) (a 7),codO (.str sLambda (a 21)) sKeyQ (a 22) (codR 121 33 (a 23) (J 15) (J 16) (J 17) (J 18) (J 19) (a 26) (a 27)),tupT [.str sWeights (a 24)],tbl [],tupT [.str sKk (a 25)],tupT [],tmpO sKeyQ lamK,lexO (J 21),lexD (hLex Pw) (fLex (b 4) (b 5) (b 6) (b 7) (b 8) 0) (.int 1 (b 3)) (.ref (J 23)) (J 22) [] 4,lst [.str (lS (mailC dd cc)) (c 3)] ((c 23)+1+1),lexO (J 24),lexD (hLex Pw) (fLex (b 10) (b 11) (b 12) (b 13) (b 14) (b 15)) (.int 1 (b 9)) .none (J 25) [⟨hsh Pw sRead,.str sRead (b 15),.ref (J 26)⟩] 5,lst [] 0,lamO lamP (J 28) (J 27) (J 29),codO (.str sLambda (b 16)) sLamQ (b 17) (codR 91 18 (b 18) (J 30) (J 31) (J 32) (J 33) (J 34) (b 21) (b 22)),cellO (.ref (J 35)),tupT [.ref (J 28)],tupT [.str sLeft (b 19)],tbl [],tupT [.str sSize (b 20)],tupT [],tmpO sLamQ lamP,lst [] (EE o (b 36) 6),accO (J 37) [] (c 24),accD (hsh Pw sInit) (b 23) 305,tupO [.str (sp (W (o 0))) (b 24),.str (lS (46::10::nmC (o 0))) (b 25)],tupO [.str (sp (W (o 1))) (b 26),.str (lS (46::10::nmC (o 1))) (b 27)],tupO [.str (sp (W (o 2))) (b 28),.str (lS (46::10::nmC (o 2))) (b 29)],tupO [.str (sp (W (o 3))) (b 30),.str (lS (46::10::nmC (o 3))) (b 31)],tupO [.str (sp (W (o 4))) (b 32),.str (lS (46::10::nmC (o 4))) (b 33)],tupO [.str (sp (W (o 5))) (b 34),.str (lS (46::10::nmC (o 5))) (b 35)],lexO (J 45),lexD (hLex Pw) (fLex (c 5) (c 6) (c 7) (c 8) (c 9) 0) (.int 12 (Z 3)) (.ref (J 47)) (J 46) [] 4,lst [] (1+1),lexO (J 48),lexD (hLex Pw) (fLex (c 11) (c 12) (c 13) (c 14) (c 15) (c 16)) (.int 1 (c 10)) .none (J 49) [⟨hsh Pw sRead,.str sRead (c 16),.ref (J 50)⟩] 5,lst [] 0,lamO lamP (J 51) (J 27) (J 52),cellO (.ref (J 53)),tupT [.ref (J 51)],lst [] (EM dd cc (c 19) 12)],new:=fun J Z=>[lst [.str (txS (N,(mailC dd cc))) (c 1),.str (lS (dC (dd 0))) (Z 4),.str (nmS (cc 0)) (Z 5),.str (lS (dC (dd 1))) (Z 6),.str (nmS (cc 1)) (Z 7),.str (lS (dC (dd 2))) (Z 8),.str (nmS (cc 2)) (Z 9),.str (lS (dC (dd 3))) (Z 10),.str (nmS (cc 3)) (Z 11),.str (lS (dC (dd 4))) (Z 12),.str (nmS (cc 4)) (Z 13),.str (lS (dC (dd 5))) (Z 14),.str (nmS (cc 5)) (Z 15)] 13,lst (rw5 (lS (mailC dd cc)) (Z 16) (J 56) ⟨#[]⟩ (Z 1) ⟨#[]⟩ (Z 17) 12 (Z 3)) 0,lst (strValues (sv6 qN (fun j=>Z (j+18)))) (Z 24)] }
noncomputable def pD1_hs (b1 b2:Bool):List Nat:=(match b1,b2 with | true,true=>[0,0,55,55,55,55,55,55,55,55,55,55,56,58,58,58,8,8,8,57,57,57,57,59,59,59,59,59,57,4,4,8,57,57,57,57,61,61,61,61,61,57,0,0,8,57,57,57,57,63,63,63,63,63,57,65,66,4,7,45,0,0,0,45,0,0,0,45,0,0,0,0,45,46,0,7,45,0,0,0,45,0,0,0,45,45,0,46,4,4] | true,false=>[0,0,55,55,55,55,55,55,55,55,55,55,56,56,56,56,56,58,58,58,8,8,8,57,57,57,57,59,59,59,59,59,57,4,4,8,57,57,57,57,61,61,61,61,61,57,0,0,8,57,57,57,57,63,63,63,63,63,57,65,66,4,7,45,0,0,0,45,0,0,0,45,0,0,0,0,45,46,0,7,45,0,0,0,45,0,0,0,45,45,0,46,4,4] | false,true=>[0,0,55,55,55,55,55,55,55,55,55,55,56,58,58,58,8,8,8,57,57,57,57,59,59,59,59,59,57,4,4,8,57,57,57,57,61,61,61,61,61,57,0,0,8,57,57,57,57,63,63,63,63,63,57,65,66,4,7,45,0,0,0,45,0,0,0,45,0,0,0,0,45,46,0,7,45,0,0,0,45,0,0,0,45,45,0,46,4,4] | false,false=>[0,0,55,55,55,55,55,55,55,55,55,55,56,56,56,56,56,58,58,58,8,8,8,57,57,57,57,59,59,59,59,59,57,4,4,8,57,57,57,57,61,61,61,61,61,57,0,0,8,57,57,57,57,63,63,63,63,63,57,65,66,4,7,45,0,0,0,45,0,0,0,45,0,0,0,0,45,46,0,7,45,0,0,0,45,0,0,0,45,45,0,46,4,4])
noncomputable def pD1_cs (Pw:Params)(v:List Iv)(W o a b c:Nat→Nat)(N:Nat)(dd cc:Nat→Nat)(b1 b2:Bool):List Ev:=(match b1,b2 with | true,true=>[evX (fun J Z=>X_told Pw ⟨hLex Pw,fLex (c 5) (c 6) (c 7) (c 8) (c 9) 0,hLex Pw,fLex (c 11) (c 12) (c 13) (c 14) (c 15) (c 16),.int 1 (c 10),J 49,4,5,.str sLambda (b 16),sLamQ,(b 17),(codR 91 18 (b 18) (J 30) (J 31) (J 32) (J 33) (J 34) (b 21) (b 22)),J 52⟩ (c 4) (dcd (c 17) (c 18)) (c 19) N dd cc (c 1) (J 3)) [57,55,56,6,44,45,47,48,50,27,51,53,46] 9 58 3,evX (fun J Z=>X_joinL ⟨#[]⟩ (Z 18) [(lS (dC (dd 0)),(Z 3)),(lS (dC (dd 1)),(Z 5)),(lS (dC (dd 2)),(Z 7)),(lS (dC (dd 3)),(Z 9)),(lS (dC (dd 4)),(Z 11)),(lS (dC (dd 5)),(Z 13))] 0 (lS (dC (dSum dd)))) [59] 3 60 21,evX (fun J Z=>X_strip (lS (dC (dSum dd))) (Z 21) (Z 22)) [] 1 60 23,evX (fun J Z=>X_joinL ⟨#[13,10]⟩ (Z 25) [((lS (dC (dd 0))),(Z 3)),((nmS (cc 0)),(Z 4)),((lS (dC (dd 1))),(Z 5)),((nmS (cc 1)),(Z 6)),((lS (dC (dd 2))),(Z 7)),((nmS (cc 2)),(Z 8)),((lS (dC (dd 3))),(Z 9)),((nmS (cc 3)),(Z 10)),((lS (dC (dd 4))),(Z 11)),((nmS (cc 4)),(Z 12)),((lS (dC (dd 5))),(Z 13)),((nmS (cc 5)),(Z 14))] 0 (lS (mailC dd cc))) [61] 3 62 27,evX (fun J Z=>X_iadd [.str (nmS (cc 0)) (Z 4),.str (nmS (cc 1)) (Z 6),.str (nmS (cc 2)) (Z 8),.str (nmS (cc 3)) (Z 10),.str (nmS (cc 4)) (Z 12),.str (nmS (cc 5)) (Z 14)] 0 0) [64,63] 5 65 30,evX (fun J Z=>X_sortT [(nmS (cc 0),(Z 4)),(nmS (cc 1),(Z 6)),(nmS (cc 2),(Z 8)),(nmS (cc 3),(Z 10)),(nmS (cc 4),(Z 12)),(nmS (cc 5),(Z 14))] 0 qN) [65] 1 66 30,evX (fun J Z=>X_gt0 ⟨hLex Pw,fLex (c 5) (c 6) (c 7) (c 8) (c 9) 0,hLex Pw,fLex (c 11) (c 12) (c 13) (c 14) (c 15) (c 16),.int 1 (c 10),J 49,4,5,.str sLambda (b 16),sLamQ,(b 17),(codR 91 18 (b 18) (J 30) (J 31) (J 32) (J 33) (J 34) (b 21) (b 22)),J 52⟩ 12 (Z 17) (EM dd cc (c 19) 12) (1+1)) [44,45,47,48,50,27,51,53,46] 0 66 37] | true,false=>[evX (fun J Z=>X_told Pw ⟨hLex Pw,fLex (c 5) (c 6) (c 7) (c 8) (c 9) 0,hLex Pw,fLex (c 11) (c 12) (c 13) (c 14) (c 15) (c 16),.int 1 (c 10),J 49,4,5,.str sLambda (b 16),sLamQ,(b 17),(codR 91 18 (b 18) (J 30) (J 31) (J 32) (J 33) (J 34) (b 21) (b 22)),J 52⟩ (c 4) (dcd (c 17) (c 18)) (c 19) N dd cc (c 1) (J 3)) [57,55,56,6,44,45,47,48,50,27,51,53,46] 11 58 3,evX (fun J Z=>X_joinL ⟨#[]⟩ (Z 18) [(lS (dC (dd 0)),(Z 3)),(lS (dC (dd 1)),(Z 5)),(lS (dC (dd 2)),(Z 7)),(lS (dC (dd 3)),(Z 9)),(lS (dC (dd 4)),(Z 11)),(lS (dC (dd 5)),(Z 13))] 0 (lS (dC (dSum dd)))) [59] 3 60 21,evX (fun J Z=>X_strip (lS (dC (dSum dd))) (Z 21) (Z 22)) [] 1 60 23,evX (fun J Z=>X_joinL ⟨#[13,10]⟩ (Z 25) [((lS (dC (dd 0))),(Z 3)),((nmS (cc 0)),(Z 4)),((lS (dC (dd 1))),(Z 5)),((nmS (cc 1)),(Z 6)),((lS (dC (dd 2))),(Z 7)),((nmS (cc 2)),(Z 8)),((lS (dC (dd 3))),(Z 9)),((nmS (cc 3)),(Z 10)),((lS (dC (dd 4))),(Z 11)),((nmS (cc 4)),(Z 12)),((lS (dC (dd 5))),(Z 13)),((nmS (cc 5)),(Z 14))] 0 (lS (mailC dd cc))) [61] 3 62 27,evX (fun J Z=>X_iadd [.str (nmS (cc 0)) (Z 4),.str (nmS (cc 1)) (Z 6),.str (nmS (cc 2)) (Z 8),.str (nmS (cc 3)) (Z 10),.str (nmS (cc 4)) (Z 12),.str (nmS (cc 5)) (Z 14)] 0 0) [64,63] 5 65 30,evX (fun J Z=>X_sortT [(nmS (cc 0),(Z 4)),(nmS (cc 1),(Z 6)),(nmS (cc 2),(Z 8)),(nmS (cc 3),(Z 10)),(nmS (cc 4),(Z 12)),(nmS (cc 5),(Z 14))] 0 qN) [65] 1 66 30,evX (fun J Z=>X_gt0 ⟨hLex Pw,fLex (c 5) (c 6) (c 7) (c 8) (c 9) 0,hLex Pw,fLex (c 11) (c 12) (c 13) (c 14) (c 15) (c 16),.int 1 (c 10),J 49,4,5,.str sLambda (b 16),sLamQ,(b 17),(codR 91 18 (b 18) (J 30) (J 31) (J 32) (J 33) (J 34) (b 21) (b 22)),J 52⟩ 12 (Z 17) (EM dd cc (c 19) 12) (1+1)) [44,45,47,48,50,27,51,53,46] 0 66 37] | false,true=>[evX (fun J Z=>X_told Pw ⟨hLex Pw,fLex (c 5) (c 6) (c 7) (c 8) (c 9) 0,hLex Pw,fLex (c 11) (c 12) (c 13) (c 14) (c 15) (c 16),.int 1 (c 10),J 49,4,5,.str sLambda (b 16),sLamQ,(b 17),(codR 91 18 (b 18) (J 30) (J 31) (J 32) (J 33) (J 34) (b 21) (b 22)),J 52⟩ (c 4) (dcd (c 17) (c 18)) (c 19) N dd cc (c 1) (J 3)) [57,55,56,6,44,45,47,48,50,27,51,53,46] 9 58 3,evX (fun J Z=>X_joinL ⟨#[]⟩ (Z 18) [(lS (dC (dd 0)),(Z 3)),(lS (dC (dd 1)),(Z 5)),(lS (dC (dd 2)),(Z 7)),(lS (dC (dd 3)),(Z 9)),(lS (dC (dd 4)),(Z 11)),(lS (dC (dd 5)),(Z 13))] 0 (lS (dC (dSum dd)))) [59] 3 60 21,evX (fun J Z=>X_strip (lS (dC (dSum dd))) (Z 21) (Z 22)) [] 1 60 23,evX (fun J Z=>X_joinL ⟨#[13,10]⟩ (Z 25) [((lS (dC (dd 0))),(Z 3)),((nmS (cc 0)),(Z 4)),((lS (dC (dd 1))),(Z 5)),((nmS (cc 1)),(Z 6)),((lS (dC (dd 2))),(Z 7)),((nmS (cc 2)),(Z 8)),((lS (dC (dd 3))),(Z 9)),((nmS (cc 3)),(Z 10)),((lS (dC (dd 4))),(Z 11)),((nmS (cc 4)),(Z 12)),((lS (dC (dd 5))),(Z 13)),((nmS (cc 5)),(Z 14))] 0 (lS (mailC dd cc))) [61] 3 62 27,evX (fun J Z=>X_iadd [.str (nmS (cc 0)) (Z 4),.str (nmS (cc 1)) (Z 6),.str (nmS (cc 2)) (Z 8),.str (nmS (cc 3)) (Z 10),.str (nmS (cc 4)) (Z 12),.str (nmS (cc 5)) (Z 14)] 0 0) [64,63] 5 65 30,evX (fun J Z=>X_sortT [(nmS (cc 0),(Z 4)),(nmS (cc 1),(Z 6)),(nmS (cc 2),(Z 8)),(nmS (cc 3),(Z 10)),(nmS (cc 4),(Z 12)),(nmS (cc 5),(Z 14))] 0 qN) [65] 1 66 30,evX (fun J Z=>X_gt0 ⟨hLex Pw,fLex (c 5) (c 6) (c 7) (c 8) (c 9) 0,hLex Pw,fLex (c 11) (c 12) (c 13) (c 14) (c 15) (c 16),.int 1 (c 10),J 49,4,5,.str sLambda (b 16),sLamQ,(b 17),(codR 91 18 (b 18) (J 30) (J 31) (J 32) (J 33) (J 34) (b 21) (b 22)),J 52⟩ 12 (Z 17) (EM dd cc (c 19) 12) (1+1)) [44,45,47,48,50,27,51,53,46] 0 66 37] | false,false=>[evX (fun J Z=>X_told Pw ⟨hLex Pw,fLex (c 5) (c 6) (c 7) (c 8) (c 9) 0,hLex Pw,fLex (c 11) (c 12) (c 13) (c 14) (c 15) (c 16),.int 1 (c 10),J 49,4,5,.str sLambda (b 16),sLamQ,(b 17),(codR 91 18 (b 18) (J 30) (J 31) (J 32) (J 33) (J 34) (b 21) (b 22)),J 52⟩ (c 4) (dcd (c 17) (c 18)) (c 19) N dd cc (c 1) (J 3)) [57,55,56,6,44,45,47,48,50,27,51,53,46] 11 58 3,evX (fun J Z=>X_joinL ⟨#[]⟩ (Z 18) [(lS (dC (dd 0)),(Z 3)),(lS (dC (dd 1)),(Z 5)),(lS (dC (dd 2)),(Z 7)),(lS (dC (dd 3)),(Z 9)),(lS (dC (dd 4)),(Z 11)),(lS (dC (dd 5)),(Z 13))] 0 (lS (dC (dSum dd)))) [59] 3 60 21,evX (fun J Z=>X_strip (lS (dC (dSum dd))) (Z 21) (Z 22)) [] 1 60 23,evX (fun J Z=>X_joinL ⟨#[13,10]⟩ (Z 25) [((lS (dC (dd 0))),(Z 3)),((nmS (cc 0)),(Z 4)),((lS (dC (dd 1))),(Z 5)),((nmS (cc 1)),(Z 6)),((lS (dC (dd 2))),(Z 7)),((nmS (cc 2)),(Z 8)),((lS (dC (dd 3))),(Z 9)),((nmS (cc 3)),(Z 10)),((lS (dC (dd 4))),(Z 11)),((nmS (cc 4)),(Z 12)),((lS (dC (dd 5))),(Z 13)),((nmS (cc 5)),(Z 14))] 0 (lS (mailC dd cc))) [61] 3 62 27,evX (fun J Z=>X_iadd [.str (nmS (cc 0)) (Z 4),.str (nmS (cc 1)) (Z 6),.str (nmS (cc 2)) (Z 8),.str (nmS (cc 3)) (Z 10),.str (nmS (cc 4)) (Z 12),.str (nmS (cc 5)) (Z 14)] 0 0) [64,63] 5 65 30,evX (fun J Z=>X_sortT [(nmS (cc 0),(Z 4)),(nmS (cc 1),(Z 6)),(nmS (cc 2),(Z 8)),(nmS (cc 3),(Z 10)),(nmS (cc 4),(Z 12)),(nmS (cc 5),(Z 14))] 0 qN) [65] 1 66 30,evX (fun J Z=>X_gt0 ⟨hLex Pw,fLex (c 5) (c 6) (c 7) (c 8) (c 9) 0,hLex Pw,fLex (c 11) (c 12) (c 13) (c 14) (c 15) (c 16),.int 1 (c 10),J 49,4,5,.str sLambda (b 16),sLamQ,(b 17),(codR 91 18 (b 18) (J 30) (J 31) (J 32) (J 33) (J 34) (b 21) (b 22)),J 52⟩ 12 (Z 17) (EM dd cc (c 19) 12) (1+1)) [44,45,47,48,50,27,51,53,46] 0 66 37])
theorem run_pD1 (v:List Iv)(W o a b c:Nat→Nat)(N:Nat)(dd cc:Nat→Nat)(Pw:Params):∀ (b1 b2:Bool) (J Z:Nu),RG (X_pD1 Pw v W o a b c N dd cc) (fun J=>stD [stOf 11,stOf 12,stOf 13] (lwE J)) Pw b1 b2 229 (pD1_hs b1 b2) (pD1_cs Pw v W o a b c N dd cc b1 b2) [56,66,65] [24,23,39,17,3,4,5,6,7,8,9,10,11,12,13,14,27,37,31,32,33,34,35,36,30] (upF J) Z
  | true,true,J,Z=>by kernel_rfl
  | true,false,J,Z=>by kernel_rfl
  | false,true,J,Z=>by kernel_rfl
  | false,false,J,Z=>by kernel_rfl
theorem va_pD1 (w:World){v:List Iv}{W o a b c:Nat→Nat}{N:Nat}{dd cc pos:Nat→Nat}(h:OOk W o)(r:ROk W o N dd cc pos)(b1 b2:Bool):ValidAll prg w (gl w.params) (pD1_cs w.params v W o a b c N dd cc b1 b2):=by cases b1<;>cases b2<;>exact vc (fun J Z=>ok_told w r) rfl (vc (fun J Z=>ok_joinL (show 6≠1 by decide) (glued_dots dd) (fold_dots r.d).1 (fold_dots r.d).2) rfl (vc (fun J Z=>ok_stripL) rfl (vc (fun J Z=>ok_joinL (show 12≠1 by decide) (glued_mail dd cc) (fold_mail cc r.d) (r.z.short h)) rfl (vc (fun J Z=>ok_iaddB rfl) rfl (vc (fun J Z=>ok_sortT rfl (sort_names r.perm)) rfl (vc (fun J Z=>ok_gt0 w) rfl (va_nil)))))))
theorem ok_pD1 (w:World){v:List Iv}{W o a b c:Nat→Nat}{N:Nat}{dd cc pos:Nat→Nat}(h:OOk W o)(r:ROk W o N dd cc pos):StOk w (X_pD1 w.params v W o a b c N dd cc) [stOf 11,stOf 12,stOf 13] lwE :=
  st_of_runG (hs:=pD1_hs (row1 w) (row2 w)) (cs:=pD1_cs w.params v W o a b c N dd cc (row1 w) (row2 w)) (ns:=[56,66,65]) (ts:=[24,23,39,17,3,4,5,6,7,8,9,10,11,12,13,14,27,37,31,32,33,34,35,36,30]) (va_pD1 w h r (row1 w) (row2 w)) rfl rfl (by decide) (show ∀ j∈([56,66,65]:List Nat),54≤j by decide) (hU_F (Nat.le_of_ble_eq_true rfl) (fun _=>rfl) (fun _=>rfl)) (run_pD1 v W o a b c N dd cc w.params (row1 w) (row2 w)) (fun _=>rfl) (fun _ _=>⟨_,rfl⟩)
noncomputable def tstOf:Stmt→Expr
  | .If t _ _ _=>t
  | _=>default
noncomputable def orA:Expr→Nat→Expr
  | .BoolOp _ es _,n=>(es.drop n).headD default
  | _,_=>default
noncomputable def cmpL:Expr→Expr
  | .Compare l _ _ _=>l
  | _=>default
noncomputable def cmpR:Expr→Expr
  | .Compare _ _ (r::_) _=>r
  | _=>default
noncomputable def eA15:Expr:=orA (tstOf (stOf 14)) 0
noncomputable def eB15:Expr:=orA (tstOf (stOf 14)) 1
noncomputable def tstT (e:Expr)(env:Env):Sem Fin:=Sem.bind (isTrue e env (eval e env)) fun b=>.pure (.done (.ret (.bool b)))
noncomputable def tstD (e:Expr)(env:Env):Sem Fin:=PySem.W.R.bindR (PySem.W.Fast.tw15418851999007992765 e env (PySem.W.Fast.tw14044960220447912780 e env)) fun b=>.pure (.done (.ret (.bool b)))
theorem tst_eq:tstT=tstD:=by
  funext e env
  unfold tstT tstD
  rw [PySem.W.R.bindR_eq,← PySem.W.Fast.te15418851999007992765,← PySem.W.Fast.te14044960220447912780]
noncomputable def evlT (e:Expr)(env:Env):Sem Fin:=Sem.bind (eval e env) fun v=>.pure (.done (.ret v))
noncomputable def evlD (e:Expr)(env:Env):Sem Fin:=PySem.W.R.bindR (PySem.W.Fast.tw14044960220447912780 e env) fun v=>.pure (.done (.ret v))
theorem evl_eq:evlT=evlD:=by
  funext e env
  unfold evlT evlD
  rw [PySem.W.R.bindR_eq,← PySem.W.Fast.te14044960220447912780]
noncomputable def X_pD2a (Pw:Params)(v:List Iv)(W o a b c:Nat→Nat)(N:Nat)(dd cc d:Nat→Nat):Spec:={ n0:=57,k:=0,nt:=0,d:=330,code:=fun J=>.func lwB (lwE J),pre:=fun J=>[tbF 183 (J 0) [.int 91 0,.int 18 0,.ref (J 27)],tbF 209 (J 1) [.int 121 0,.int 33 0,.ref (J 14)],ro v 0,frm [⟨hsh Pw sOrder,.str sOrder (a 14),.ref (J 13)⟩,⟨hsh Pw sLine,.str sLine (b 0),.ref (J 20)⟩,⟨hsh Pw sPile,.str sPile (b 1),.ref (J 36)⟩,⟨hsh Pw sKk,.str sKk (b 2),.int (o 5:Nat) (a 6)⟩,⟨hsh Pw sLast,.str sLast (c 0),.str (txS (N,(mailC dd cc))) (c 1)⟩,⟨hsh Pw sMail,.str sMail (c 2),.str (lS (mailC dd cc)) (c 3)⟩,⟨hsh Pw sDots,.str sDots (d 0),.str ⟨#[]⟩ (d 1)⟩,⟨hsh Pw sRows,.str sRows (d 2),.ref (J 55)⟩] 8,cellO (.ref (J 2)),cellO (.ref (J 11)),cellO (.ref (J 44)),cellO (.ref (J 54)),cell0,cell0,cellO (.ref (J 12)),lst [.str ⟨#[97]⟩ (a 15),.str ⟨#[98,34]⟩ (a 16),.str ⟨#[35]⟩ (a 17),.str ⟨#[100]⟩ (a 18),.str ⟨#[101]⟩ (a 19),.str ⟨#[102]⟩ (a 20)] 0,ro (wI W (fun j=>a (j+8))) 6,ro (oI o (fun j=>a (j+1))) (a 7),codO (.str sLambda (a 21)) sKeyQ (a 22) (codR 121 33 (a 23) (J 15) (J 16) (J 17) (J 18) (J 19) (a 26) (a 27)),tupT [.str sWeights (a 24)],tbl [],tupT [.str sKk (a 25)],tupT [],tmpO sKeyQ lamK,lexO (J 21),lexD (hLex Pw) (fLex (b 4) (b 5) (b 6) (b 7) (b 8) 0) (.int 1 (b 3)) (.ref (J 23)) (J 22) [] 4,lst [.str (lS (mailC dd cc)) (c 3)] ((c 23)+1+1),lexO (J 24),lexD (hLex Pw) (fLex (b 10) (b 11) (b 12) (b 13) (b 14) (b 15)) (.int 1 (b 9)) .none (J 25) [⟨hsh Pw sRead,.str sRead (b 15),.ref (J 26)⟩] 5,lst [] 0,lamO lamP (J 28) (J 27) (J 29),codO (.str sLambda (b 16)) sLamQ (b 17) (codR 91 18 (b 18) (J 30) (J 31) (J 32) (J 33) (J 34) (b 21) (b 22)),cellO (.ref (J 35)),tupT [.ref (J 28)],tupT [.str sLeft (b 19)],tbl [],tupT [.str sSize (b 20)],tupT [],tmpO sLamQ lamP,lst [] (EE o (b 36) 6),accO (J 37) [] (c 24),accD (hsh Pw sInit) (b 23) 305,tupO [.str (sp (W (o 0))) (b 24),.str (lS (46::10::nmC (o 0))) (b 25)],tupO [.str (sp (W (o 1))) (b 26),.str (lS (46::10::nmC (o 1))) (b 27)],tupO [.str (sp (W (o 2))) (b 28),.str (lS (46::10::nmC (o 2))) (b 29)],tupO [.str (sp (W (o 3))) (b 30),.str (lS (46::10::nmC (o 3))) (b 31)],tupO [.str (sp (W (o 4))) (b 32),.str (lS (46::10::nmC (o 4))) (b 33)],tupO [.str (sp (W (o 5))) (b 34),.str (lS (46::10::nmC (o 5))) (b 35)],lexO (J 45),lexD (hLex Pw) (fLex (c 5) (c 6) (c 7) (c 8) (c 9) 0) (.int 12 (d 3)) (.ref (J 47)) (J 46) [] 4,lst [] (1+1),lexO (J 48),lexD (hLex Pw) (fLex (c 11) (c 12) (c 13) (c 14) (c 15) (c 16)) (.int 1 (c 10)) .none (J 49) [⟨hsh Pw sRead,.str sRead (c 16),.ref (J 50)⟩] 5,lst [] 0,lamO lamP (J 51) (J 27) (J 52),cellO (.ref (J 53)),tupT [.ref (J 51)],lst [] (EM dd cc (c 19) 12),lst [.str (txS (N,(mailC dd cc))) (c 1),.str (lS (dC (dd 0))) (d 4),.str (nmS (cc 0)) (d 5),.str (lS (dC (dd 1))) (d 6),.str (nmS (cc 1)) (d 7),.str (lS (dC (dd 2))) (d 8),.str (nmS (cc 2)) (d 9),.str (lS (dC (dd 3))) (d 10),.str (nmS (cc 3)) (d 11),.str (lS (dC (dd 4))) (d 12),.str (nmS (cc 4)) (d 13),.str (lS (dC (dd 5))) (d 14),.str (nmS (cc 5)) (d 15)] 13,lst (rw5 (lS (mailC dd cc)) (d 16) (J 56) ⟨#[]⟩ (d 1) ⟨#[]⟩ (d 17) 12 (d 3)) 0,lst (strValues (sv6 qN (fun j=>d (j+18)))) (d 24)],res:=fun J Z=>.ok (.ret (.bool false)),post:=fun J Z=>[tbF 183 (J 0) [.int 91 0,.int 18 0,.ref (J 27)],tbF 209 (J 1) [.int 121 0,.int 33 0,.ref (J 14)],ro v 0,frm [⟨hsh Pw sOrder,.str sOrder (a 14),.ref (J 13)⟩,⟨hsh Pw sLine,.str sLine (b 0),.ref (J 20)⟩,⟨hsh Pw sPile,.str sPile (b 1),.ref (J 36)⟩,⟨hsh Pw sKk,.str sKk (b 2),.int (o 5:Nat) (a 6)⟩,⟨hsh Pw sLast,.str sLast (c 0),.str (txS (N,(mailC dd cc))) (c 1)⟩,⟨hsh Pw sMail,.str sMail (c 2),.str (lS (mailC dd cc)) (c 3)⟩,⟨hsh Pw sDots,.str sDots (d 0),.str ⟨#[]⟩ (d 1)⟩,⟨hsh Pw sRows,.str sRows (d 2),.ref (J 55)⟩] 8,cellO (.ref (J 2)),cellO (.ref (J 11)),cellO (.ref (J 44)),cellO (.ref (J 54)),cell0,cell0,cellO (.ref (J 12)),lst [.str ⟨#[97]⟩ (a 15),.str ⟨#[98,34]⟩ (a 16),.str ⟨#[35]⟩ (a 17),.str ⟨#[100]⟩ (a 18),.str ⟨#[101]⟩ (a 19),.str ⟨#[102]⟩ (a 20)] 0,ro (wI W (fun j=>a (j+8))) 6,ro (oI o (fun j=>a (j+1))) (a 7),codO (.str sLambda (a 21)) sKeyQ (a 22) (codR 121 33 (a 23) (J 15) (J 16) (J 17) (J 18) (J 19) (a 26) (a 27)),tupT [.str sWeights (a 24)],tbl [],tupT [.str sKk (a 25)],tupT [],tmpO sKeyQ lamK,lexO (J 21),lexD (hLex Pw) (fLex (b 4) (b 5) (b 6) (b 7) (b 8) 0) (.int 1 (b 3)) (.ref (J 23)) (J 22) [] 4,lst [.str (lS (mailC dd cc)) (c 3)] ((c 23)+1+1),lexO (J 24),lexD (hLex Pw) (fLex (b 10) (b 11) (b 12) (b 13) (b 14) (b 15)) (.int 1 (b 9)) .none (J 25) [⟨hsh Pw sRead,.str sRead (b 15),.ref (J 26)⟩] 5,lst [] 0,lamO lamP (J 28) (J 27) (J 29),codO (.str sLambda (b 16)) sLamQ (b 17) (codR 91 18 (b 18) (J 30) (J 31) (J 32) (J 33) (J 34) (b 21) (b 22)),cellO (.ref (J 35)),tupT [.ref (J 28)],tupT [.str sLeft (b 19)],tbl [],tupT [.str sSize (b 20)],tupT [],tmpO sLamQ lamP,lst [] (EE o (b 36) 6),accO (J 37) [] (c 24),accD (hsh Pw sInit) (b 23) 305,tupO [.str (sp (W (o 0))) (b 24),.str (lS (46::10::nmC (o 0))) (b 25)],tupO [.str (sp (W (o 1))) (b 26),.str (lS (46::10::nmC (o 1))) (b 27)],tupO [.str (sp (W (o 2))) (b 28),.str (lS (46::10::nmC (o 2))) (b 29)],tupO [.str (sp (W (o 3))) (b 30),.str (lS (46::10::nmC (o 3))) (b 31)],tupO [.str (sp (W (o 4))) (b 32),.str (lS (46::10::nmC (o 4))) (b 33)],tupO [.str (sp (W (o 5))) (b 34),.str (lS (46::10::nmC (o 5))) (b 35)],lexO (J 45),lexD (hLex Pw) (fLex (c 5) (c 6) (c 7) (c 8) (c 9) 0) (.int 12 (d 3)) (.ref (J 47)) (J 46) [] 4,lst [] (1+1),lexO (J 48),lexD (hLex Pw) (fLex (c 11) (c 12) (c 13) (c 14) (c 15) (c 16)) (.int 1 (c 10)) .none (J 49) [⟨hsh Pw sRead,.str sRead (c 16),.ref (J 50)⟩] 5,lst [] 0,lamO lamP (J 51) (J 27) (J 52),cellO (.ref (J 53)),tupT [.ref (J 51)],lst [] (EM dd cc (c 19) 12),lst [.str (txS (N,(mailC dd cc))) (c 1),.str (lS (dC (dd 0))) (d 4),.str (nmS (cc 0)) (d 5),.str (lS (dC (dd 1))) (d 6),.str (nmS (cc 1)) (d 7),.str (lS (dC (dd 2))) (d 8),.str (nmS (cc 2)) (d 9),.str (lS (dC (dd 3))) (d 10),.str (nmS (cc 3)) (d 11),.str (lS (dC (dd 4))) (d 12),.str (nmS (cc 4)) (d 13),.str (lS (dC (dd 5))) (d 14),.str (nmS (cc 5)) (d 15)] 13,lst (rw5 (lS (mailC dd cc)) (d 16) (J 56) ⟨#[]⟩ (d 1) ⟨#[]⟩ (d 17) 12 (d 3)) 0,lst (strValues (sv6 qN (fun j=>d (j+18)))) (d 24)],new:=fun J Z=>[] }
noncomputable def pD2a_hs (b1 b2:Bool):List Nat:=[8,55,55,55,55,55,4]
noncomputable def pD2a_cs (Pw:Params)(v:List Iv)(W o a b c:Nat→Nat)(N:Nat)(dd cc d:Nat→Nat)(b1 b2:Bool):List Ev:=[evX (fun J Z=>X_ne (txS (N,(mailC dd cc))) (c 1) (txS (N,(mailC dd cc))) (c 1) false) [] 3 57 1]
theorem run_pD2a (v:List Iv)(W o a b c:Nat→Nat)(N:Nat)(dd cc d:Nat→Nat)(Pw:Params):∀ (b1 b2:Bool) (J Z:Nu),RG (X_pD2a Pw v W o a b c N dd cc d) (fun J=>tstD eA15 (lwE J)) Pw b1 b2 24 (pD2a_hs b1 b2) (pD2a_cs Pw v W o a b c N dd cc d b1 b2) [] [] (upF J) Z
  | true,true,J,Z=>by kernel_rfl
  | true,false,J,Z=>by kernel_rfl
  | false,true,J,Z=>by kernel_rfl
  | false,false,J,Z=>by kernel_rfl
theorem va_pD2a (w:World){v:List Iv}{W o a b c:Nat→Nat}{N:Nat}{dd cc d pos:Nat→Nat}(h:OOk W o)(r:ROk W o N dd cc pos)(b1 b2:Bool):ValidAll prg w (gl w.params) (pD2a_cs w.params v W o a b c N dd cc d b1 b2):=vc (fun J Z=>ok_ne (ne_self _)) rfl (va_nil)
noncomputable def X_pD2l (Pw:Params)(v:List Iv)(W o a b c:Nat→Nat)(N:Nat)(dd cc d:Nat→Nat):Spec:={ n0:=57,k:=0,nt:=0,d:=330,code:=fun J=>.func lwB (lwE J),pre:=fun J=>[tbF 183 (J 0) [.int 91 0,.int 18 0,.ref (J 27)],tbF 209 (J 1) [.int 121 0,.int 33 0,.ref (J 14)],ro v 0,frm [⟨hsh Pw sOrder,.str sOrder (a 14),.ref (J 13)⟩,⟨hsh Pw sLine,.str sLine (b 0),.ref (J 20)⟩,⟨hsh Pw sPile,.str sPile (b 1),.ref (J 36)⟩,⟨hsh Pw sKk,.str sKk (b 2),.int (o 5:Nat) (a 6)⟩,⟨hsh Pw sLast,.str sLast (c 0),.str (txS (N,(mailC dd cc))) (c 1)⟩,⟨hsh Pw sMail,.str sMail (c 2),.str (lS (mailC dd cc)) (c 3)⟩,⟨hsh Pw sDots,.str sDots (d 0),.str ⟨#[]⟩ (d 1)⟩,⟨hsh Pw sRows,.str sRows (d 2),.ref (J 55)⟩] 8,cellO (.ref (J 2)),cellO (.ref (J 11)),cellO (.ref (J 44)),cellO (.ref (J 54)),cell0,cell0,cellO (.ref (J 12)),lst [.str ⟨#[97]⟩ (a 15),.str ⟨#[98,34]⟩ (a 16),.str ⟨#[35]⟩ (a 17),.str ⟨#[100]⟩ (a 18),.str ⟨#[101]⟩ (a 19),.str ⟨#[102]⟩ (a 20)] 0,ro (wI W (fun j=>a (j+8))) 6,ro (oI o (fun j=>a (j+1))) (a 7),codO (.str sLambda (a 21)) sKeyQ (a 22) (codR 121 33 (a 23) (J 15) (J 16) (J 17) (J 18) (J 19) (a 26) (a 27)),tupT [.str sWeights (a 24)],tbl [],tupT [.str sKk (a 25)],tupT [],tmpO sKeyQ lamK,lexO (J 21),lexD (hLex Pw) (fLex (b 4) (b 5) (b 6) (b 7) (b 8) 0) (.int 1 (b 3)) (.ref (J 23)) (J 22) [] 4,lst [.str (lS (mailC dd cc)) (c 3)] ((c 23)+1+1),lexO (J 24),lexD (hLex Pw) (fLex (b 10) (b 11) (b 12) (b 13) (b 14) (b 15)) (.int 1 (b 9)) .none (J 25) [⟨hsh Pw sRead,.str sRead (b 15),.ref (J 26)⟩] 5,lst [] 0,lamO lamP (J 28) (J 27) (J 29),codO (.str sLambda (b 16)) sLamQ (b 17) (codR 91 18 (b 18) (J 30) (J 31) (J 32) (J 33) (J 34) (b 21) (b 22)),cellO (.ref (J 35)),tupT [.ref (J 28)],tupT [.str sLeft (b 19)],tbl [],tupT [.str sSize (b 20)],tupT [],tmpO sLamQ lamP,lst [] (EE o (b 36) 6),accO (J 37) [] (c 24),accD (hsh Pw sInit) (b 23) 305,tupO [.str (sp (W (o 0))) (b 24),.str (lS (46::10::nmC (o 0))) (b 25)],tupO [.str (sp (W (o 1))) (b 26),.str (lS (46::10::nmC (o 1))) (b 27)],tupO [.str (sp (W (o 2))) (b 28),.str (lS (46::10::nmC (o 2))) (b 29)],tupO [.str (sp (W (o 3))) (b 30),.str (lS (46::10::nmC (o 3))) (b 31)],tupO [.str (sp (W (o 4))) (b 32),.str (lS (46::10::nmC (o 4))) (b 33)],tupO [.str (sp (W (o 5))) (b 34),.str (lS (46::10::nmC (o 5))) (b 35)],lexO (J 45),lexD (hLex Pw) (fLex (c 5) (c 6) (c 7) (c 8) (c 9) 0) (.int 12 (d 3)) (.ref (J 47)) (J 46) [] 4,lst [] (1+1),lexO (J 48),lexD (hLex Pw) (fLex (c 11) (c 12) (c 13) (c 14) (c 15) (c 16)) (.int 1 (c 10)) .none (J 49) [⟨hsh Pw sRead,.str sRead (c 16),.ref (J 50)⟩] 5,lst [] 0,lamO lamP (J 51) (J 27) (J 52),cellO (.ref (J 53)),tupT [.ref (J 51)],lst [] (EM dd cc (c 19) 12),lst [.str (txS (N,(mailC dd cc))) (c 1),.str (lS (dC (dd 0))) (d 4),.str (nmS (cc 0)) (d 5),.str (lS (dC (dd 1))) (d 6),.str (nmS (cc 1)) (d 7),.str (lS (dC (dd 2))) (d 8),.str (nmS (cc 2)) (d 9),.str (lS (dC (dd 3))) (d 10),.str (nmS (cc 3)) (d 11),.str (lS (dC (dd 4))) (d 12),.str (nmS (cc 4)) (d 13),.str (lS (dC (dd 5))) (d 14),.str (nmS (cc 5)) (d 15)] 13,lst (rw5 (lS (mailC dd cc)) (d 16) (J 56) ⟨#[]⟩ (d 1) ⟨#[]⟩ (d 17) 12 (d 3)) 0,lst (strValues (sv6 qN (fun j=>d (j+18)))) (d 24)],res:=fun J Z=>.ok (.ret (.ref (J 55))),post:=fun J Z=>[tbF 183 (J 0) [.int 91 0,.int 18 0,.ref (J 27)],tbF 209 (J 1) [.int 121 0,.int 33 0,.ref (J 14)],ro v 0,frm [⟨hsh Pw sOrder,.str sOrder (a 14),.ref (J 13)⟩,⟨hsh Pw sLine,.str sLine (b 0),.ref (J 20)⟩,⟨hsh Pw sPile,.str sPile (b 1),.ref (J 36)⟩,⟨hsh Pw sKk,.str sKk (b 2),.int (o 5:Nat) (a 6)⟩,⟨hsh Pw sLast,.str sLast (c 0),.str (txS (N,(mailC dd cc))) (c 1)⟩,⟨hsh Pw sMail,.str sMail (c 2),.str (lS (mailC dd cc)) (c 3)⟩,⟨hsh Pw sDots,.str sDots (d 0),.str ⟨#[]⟩ (d 1)⟩,⟨hsh Pw sRows,.str sRows (d 2),.ref (J 55)⟩] 8,cellO (.ref (J 2)),cellO (.ref (J 11)),cellO (.ref (J 44)),cellO (.ref (J 54)),cell0,cell0,cellO (.ref (J 12)),lst [.str ⟨#[97]⟩ (a 15),.str ⟨#[98,34]⟩ (a 16),.str ⟨#[35]⟩ (a 17),.str ⟨#[100]⟩ (a 18),.str ⟨#[101]⟩ (a 19),.str ⟨#[102]⟩ (a 20)] 0,ro (wI W (fun j=>a (j+8))) 6,ro (oI o (fun j=>a (j+1))) (a 7),codO (.str sLambda (a 21)) sKeyQ (a 22) (codR 121 33 (a 23) (J 15) (J 16) (J 17) (J 18) (J 19) (a 26) (a 27)),tupT [.str sWeights (a 24)],tbl [],tupT [.str sKk (a 25)],tupT [],tmpO sKeyQ lamK,lexO (J 21),lexD (hLex Pw) (fLex (b 4) (b 5) (b 6) (b 7) (b 8) 0) (.int 1 (b 3)) (.ref (J 23)) (J 22) [] 4,lst [.str (lS (mailC dd cc)) (c 3)] ((c 23)+1+1),lexO (J 24),lexD (hLex Pw) (fLex (b 10) (b 11) (b 12) (b 13) (b 14) (b 15)) (.int 1 (b 9)) .none (J 25) [⟨hsh Pw sRead,.str sRead (b 15),.ref (J 26)⟩] 5,lst [] 0,lamO lamP (J 28) (J 27) (J 29),codO (.str sLambda (b 16)) sLamQ (b 17) (codR 91 18 (b 18) (J 30) (J 31) (J 32) (J 33) (J 34) (b 21) (b 22)),cellO (.ref (J 35)),tupT [.ref (J 28)],tupT [.str sLeft (b 19)],tbl [],tupT [.str sSize (b 20)],tupT [],tmpO sLamQ lamP,lst [] (EE o (b 36) 6),accO (J 37) [] (c 24),accD (hsh Pw sInit) (b 23) 305,tupO [.str (sp (W (o 0))) (b 24),.str (lS (46::10::nmC (o 0))) (b 25)],tupO [.str (sp (W (o 1))) (b 26),.str (lS (46::10::nmC (o 1))) (b 27)],tupO [.str (sp (W (o 2))) (b 28),.str (lS (46::10::nmC (o 2))) (b 29)],tupO [.str (sp (W (o 3))) (b 30),.str (lS (46::10::nmC (o 3))) (b 31)],tupO [.str (sp (W (o 4))) (b 32),.str (lS (46::10::nmC (o 4))) (b 33)],tupO [.str (sp (W (o 5))) (b 34),.str (lS (46::10::nmC (o 5))) (b 35)],lexO (J 45),lexD (hLex Pw) (fLex (c 5) (c 6) (c 7) (c 8) (c 9) 0) (.int 12 (d 3)) (.ref (J 47)) (J 46) [] 4,lst [] (1+1),lexO (J 48),lexD (hLex Pw) (fLex (c 11) (c 12) (c 13) (c 14) (c 15) (c 16)) (.int 1 (c 10)) .none (J 49) [⟨hsh Pw sRead,.str sRead (c 16),.ref (J 50)⟩] 5,lst [] 0,lamO lamP (J 51) (J 27) (J 52),cellO (.ref (J 53)),tupT [.ref (J 51)],lst [] (EM dd cc (c 19) 12),lst [.str (txS (N,(mailC dd cc))) (c 1),.str (lS (dC (dd 0))) (d 4),.str (nmS (cc 0)) (d 5),.str (lS (dC (dd 1))) (d 6),.str (nmS (cc 1)) (d 7),.str (lS (dC (dd 2))) (d 8),.str (nmS (cc 2)) (d 9),.str (lS (dC (dd 3))) (d 10),.str (nmS (cc 3)) (d 11),.str (lS (dC (dd 4))) (d 12),.str (nmS (cc 4)) (d 13),.str (lS (dC (dd 5))) (d 14),.str (nmS (cc 5)) (d 15)] 13,lst (rw5 (lS (mailC dd cc)) (d 16) (J 56) ⟨#[]⟩ (d 1) ⟨#[]⟩ (d 17) 12 (d 3)) 0,lst (strValues (sv6 qN (fun j=>d (j+18)))) (d 24)],new:=fun J Z=>[] }
noncomputable def pD2l_hs (b1 b2:Bool):List Nat:=[4]
noncomputable def pD2l_cs (Pw:Params)(v:List Iv)(W o a b c:Nat→Nat)(N:Nat)(dd cc d:Nat→Nat)(b1 b2:Bool):List Ev:=[]
theorem run_pD2l (v:List Iv)(W o a b c:Nat→Nat)(N:Nat)(dd cc d:Nat→Nat)(Pw:Params):∀ (b1 b2:Bool) (J Z:Nu),RG (X_pD2l Pw v W o a b c N dd cc d) (fun J=>evlD (cmpL eB15) (lwE J)) Pw b1 b2 8 (pD2l_hs b1 b2) (pD2l_cs Pw v W o a b c N dd cc d b1 b2) [] [] (upF J) Z
  | true,true,J,Z=>by kernel_rfl
  | true,false,J,Z=>by kernel_rfl
  | false,true,J,Z=>by kernel_rfl
  | false,false,J,Z=>by kernel_rfl
theorem va_pD2l (w:World){v:List Iv}{W o a b c:Nat→Nat}{N:Nat}{dd cc d pos:Nat→Nat}(h:OOk W o)(r:ROk W o N dd cc pos)(b1 b2:Bool):ValidAll prg w (gl w.params) (pD2l_cs w.params v W o a b c N dd cc d b1 b2):=va_nil
noncomputable def X_pD2r (Pw:Params)(v:List Iv)(W o a b c:Nat→Nat)(N:Nat)(dd cc d:Nat→Nat):Spec:={ n0:=57,k:=2,nt:=10,d:=330,code:=fun J=>.func lwB (lwE J),pre:=fun J=>[tbF 183 (J 0) [.int 91 0,.int 18 0,.ref (J 27)],tbF 209 (J 1) [.int 121 0,.int 33 0,.ref (J 14)],ro v 0,frm [⟨hsh Pw sOrder,.str sOrder (a 14),.ref (J 13)⟩,⟨hsh Pw sLine,.str sLine (b 0),.ref (J 20)⟩,⟨hsh Pw sPile,.str sPile (b 1),.ref (J 36)⟩,⟨hsh Pw sKk,.str sKk (b 2),.int (o 5:Nat) (a 6)⟩,⟨hsh Pw sLast,.str sLast (c 0),.str (txS (N,(mailC dd cc))) (c 1)⟩,⟨hsh Pw sMail,.str sMail (c 2),.str (lS (mailC dd cc)) (c 3)⟩,⟨hsh Pw sDots,.str sDots (d 0),.str ⟨#[]⟩ (d 1)⟩,⟨hsh Pw sRows,.str sRows (d 2),.ref (J 55)⟩] 8,cellO (.ref (J 2)),cellO (.ref (J 11)),cellO (.ref (J 44)),cellO (.ref (J 54)),cell0,cell0,cellO (.ref (J 12)),lst [.str ⟨#[97]⟩ (a 15),.str ⟨#[98,34]⟩ (a 16),.str ⟨#[35]⟩ (a 17),.str ⟨#[100]⟩ (a 18),.str ⟨#[101]⟩ (a 19),.str ⟨#[102]⟩ (a 20)] 0,ro (wI W (fun j=>a (j+8))) 6,ro (oI o (fun j=>a (j+1))) (a 7),codO (.str sLambda (a 21)) sKeyQ (a 22) (codR 121 33 (a 23) (J 15) (J 16) (J 17) (J 18) (J 19) (a 26) (a 27)),tupT [.str sWeights (a 24)],tbl [],tupT [.str sKk (a 25)],tupT [],tmpO sKeyQ lamK,lexO (J 21),lexD (hLex Pw) (fLex (b 4) (b 5) (b 6) (b 7) (b 8) 0) (.int 1 (b 3)) (.ref (J 23)) (J 22) [] 4,lst [.str (lS (mailC dd cc)) (c 3)] ((c 23)+1+1),lexO (J 24),lexD (hLex Pw) (fLex (b 10) (b 11) (b 12) (b 13) (b 14) (b 15)) (.int 1 (b 9)) .none (J 25) [⟨hsh Pw sRead,.str sRead (b 15),.ref (J 26)⟩] 5,lst [] 0,lamO lamP (J 28) (J 27) (J 29),codO (.str sLambda (b 16)) sLamQ (b 17) (codR 91 18 (b 18) (J 30) (J 31) (J 32) (J 33) (J 34) (b 21) (b 22)),cellO (.ref (J 35)),tupT [.ref (J 28)],tupT [.str sLeft (b 19)],tbl [],tupT [.str sSize (b 20)],tupT [],tmpO sLamQ lamP,lst [] (EE o (b 36) 6),accO (J 37) [] (c 24),accD (hsh Pw sInit) (b 23) 305,tupO [.str (sp (W (o 0))) (b 24),.str (lS (46::10::nmC (o 0))) (b 25)],tupO [.str (sp (W (o 1))) (b 26),.str (lS (46::10::nmC (o 1))) (b 27)],tupO [.str (sp (W (o 2))) (b 28),.str (lS (46::10::nmC (o 2))) (b 29)],tupO [.str (sp (W (o 3))) (b 30),.str (lS (46::10::nmC (o 3))) (b 31)],tupO [.str (sp (W (o 4))) (b 32),.str (lS (46::10::nmC (o 4))) (b 33)],tupO [.str (sp (W (o 5))) (b 34),.str (lS (46::10::nmC (o 5))) (b 35)],lexO (J 45),lexD (hLex Pw) (fLex (c 5) (c 6) (c 7) (c 8) (c 9) 0) (.int 12 (d 3)) (.ref (J 47)) (J 46) [] 4,lst [] (1+1),lexO (J 48),lexD (hLex Pw) (fLex (c 11) (c 12) (c 13) (c 14) (c 15) (c 16)) (.int 1 (c 10)) .none (J 49) [⟨hsh Pw sRead,.str sRead (c 16),.ref (J 50)⟩] 5,lst [] 0,lamO lamP (J 51) (J 27) (J 52),cellO (.ref (J 53)),tupT [.ref (J 51)],lst [] (EM dd cc (c 19) 12),lst [.str (txS (N,(mailC dd cc))) (c 1),.str (lS (dC (dd 0))) (d 4),.str (nmS (cc 0)) (d 5),.str (lS (dC (dd 1))) (d 6),.str (nmS (cc 1)) (d 7),.str (lS (dC (dd 2))) (d 8),.str (nmS (cc 2)) (d 9),.str (lS (dC (dd 3))) (d 10),.str (nmS (cc 3)) (d 11),.str (lS (dC (dd 4))) (d 12),.str (nmS (cc 4)) (d 13),.str (lS (dC (dd 5))) (d 14),.str (nmS (cc 5)) (d 15)] 13,lst (rw5 (lS (mailC dd cc)) (d 16) (J 56) ⟨#[]⟩ (d 1) ⟨#[]⟩ (d 17) 12 (d 3)) 0,lst (strValues (sv6 qN (fun j=>d (j+18)))) (d 24)],res:=fun J Z=>.ok (.ret (.ref (J 57))),post:=fun J Z=>[tbF 183 (J 0) [.int 91 0,.int 18 0,.ref (J 27)],tbF 209 (J 1) [.int 121 0,.int 33 0,.ref (J 14)],ro v 0,frm [⟨hsh Pw sOrder,.str sOrder (a 14),.ref (J 13)⟩,⟨hsh Pw sLine,.str sLine (b 0),.ref (J 20)⟩,⟨hsh Pw sPile,.str sPile (b 1),.ref (J 36)⟩,⟨hsh Pw sKk,.str sKk (b 2),.int (o 5:Nat) (a 6)⟩,⟨hsh Pw sLast,.str sLast (c 0),.str (txS (N,(mailC dd cc))) (c 1)⟩,⟨hsh Pw sMail,.str sMail (c 2),.str (lS (mailC dd cc)) (c 3)⟩,⟨hsh Pw sDots,.str sDots (d 0),.str ⟨#[]⟩ (d 1)⟩,⟨hsh Pw sRows,.str sRows (d 2),.ref (J 55)⟩] 8,cellO (.ref (J 2)),cellO (.ref (J 11)),cellO (.ref (J 44)),cellO (.ref (J 54)),cell0,cell0,cellO (.ref (J 12)),lst [.str ⟨#[97]⟩ (a 15),.str ⟨#[98,34]⟩ (a 16),.str ⟨#[35]⟩ (a 17),.str ⟨#[100]⟩ (a 18),.str ⟨#[101]⟩ (a 19),.str ⟨#[102]⟩ (a 20)] 0,ro (wI W (fun j=>a (j+8))) 6,ro (oI o (fun j=>a (j+1))) (a 7),codO (.str sLambda (a 21)) sKeyQ (a 22) (codR 121 33 (a 23) (J 15) (J 16) (J 17) (J 18) (J 19) (a 26) (a 27)),tupT [.str sWeights (a 24)],tbl [],tupT [.str sKk (a 25)],tupT [],tmpO sKeyQ lamK,lexO (J 21),lexD (hLex Pw) (fLex (b 4) (b 5) (b 6) (b 7) (b 8) 0) (.int 1 (b 3)) (.ref (J 23)) (J 22) [] 4,lst [.str (lS (mailC dd cc)) (c 3)] ((c 23)+1+1),lexO (J 24),lexD (hLex Pw) (fLex (b 10) (b 11) (b 12) (b 13) (b 14) (b 15)) (.int 1 (b 9)) .none (J 25) [⟨hsh Pw sRead,.str sRead (b 15),.ref (J 26)⟩] 5,lst [] 0,lamO lamP (J 28) (J 27) (J 29),codO (.str sLambda (b 16)) sLamQ (b 17) (codR 91 18 (b 18) (J 30) (J 31) (J 32) (J 33) (J 34) (b 21) (b 22)),cellO (.ref (J 35)),tupT [.ref (J 28)],tupT [.str sLeft (b 19)],tbl [],tupT [.str sSize (b 20)],tupT [],tmpO sLamQ lamP,lst [] (EE o (b 36) 6),accO (J 37) [] (c 24),accD (hsh Pw sInit) (b 23) 305,tupO [.str (sp (W (o 0))) (b 24),.str (lS (46::10::nmC (o 0))) (b 25)],tupO [.str (sp (W (o 1))) (b 26),.str (lS (46::10::nmC (o 1))) (b 27)],tupO [.str (sp (W (o 2))) (b 28),.str (lS (46::10::nmC (o 2))) (b 29)],tupO [.str (sp (W (o 3))) (b 30),.str (lS (46::10::nmC (o 3))) (b 31)],tupO [.str (sp (W (o 4))) (b 32),.str (lS (46::10::nmC (o 4))) (b 33)],tupO [.str (sp (W (o 5))) (b 34),.str (lS (46::10::nmC (o 5))) (b 35)],lexO (J 45),lexD (hLex Pw) (fLex (c 5) (c 6) (c 7) (c 8) (c 9) 0) (.int 12 (d 3)) (.ref (J 47)) (J 46) [] 4,lst [] (1+1),lexO (J 48),lexD (hLex Pw) (fLex (c 11) (c 12) (c 13) (c 14) (c 15) (c 16)) (.int 1 (c 10)) .none (J 49) [⟨hsh Pw sRead,.str sRead (c 16),.ref (J 50)⟩] 5,lst [] 0,lamO lamP (J 51) (J 27) (J 52),cellO (.ref (J 53)),tupT [.ref (J 51)],lst [] (EM dd cc (c 19) 12),lst [.str (txS (N,(mailC dd cc))) (c 1),.str (lS (dC (dd 0))) (d 4),.str (nmS (cc 0)) (d 5),.str (lS (dC (dd 1))) (d 6),.str (nmS (cc 1)) (d 7),.str (lS (dC (dd 2))) (d 8),.str (nmS (cc 2)) (d 9),.str (lS (dC (dd 3))) (d 10),.str (nmS (cc 3)) (d 11),.str (lS (dC (dd 4))) (d 12),.str (nmS (cc 4)) (d 13),.str (lS (dC (dd 5))) (d 14),.str (nmS (cc 5)) (d 15)] 13,lst (rw5 (lS (mailC dd cc)) (d 16) (J 56) ⟨#[]⟩ (d 1) ⟨#[]⟩ (d 17) 12 (d 3)) 0,lst (strValues (sv6 qN (fun j=>d (j+18)))) (d 24)],new:=fun J Z=>[lst (rw5 (lS (mailC dd cc)) (c 3) (J 58) ⟨#[]⟩ (Z 0) ⟨#[]⟩ (Z 1) 12 (Z 2)) 0,lst (strValues (sv6 qN (fun j=>Z (j+3)))) (Z 9)] }
noncomputable def pD2r_hs (b1 b2:Bool):List Nat:=[4,0,0,6,58,59]
noncomputable def pD2r_cs (Pw:Params)(v:List Iv)(W o a b c:Nat→Nat)(N:Nat)(dd cc d:Nat→Nat)(b1 b2:Bool):List Ev:=[evX (fun J Z=>X_iadd [.str (nmS 0) (a 15),.str (nmS 1) (a 16),.str (nmS 2) (a 17),.str (nmS 3) (a 18),.str (nmS 4) (a 19),.str (nmS 5) (a 20)] 0 0) [57,11] 3 58 0,evX (fun J Z=>X_sortT (nmV (fun j=>a (15+j))) 0 qN) [58] 1 59 0]
theorem run_pD2r (v:List Iv)(W o a b c:Nat→Nat)(N:Nat)(dd cc d:Nat→Nat)(Pw:Params):∀ (b1 b2:Bool) (J Z:Nu),RG (X_pD2r Pw v W o a b c N dd cc d) (fun J=>evlD (cmpR eB15) (lwE J)) Pw b1 b2 31 (pD2r_hs b1 b2) (pD2r_cs Pw v W o a b c N dd cc d b1 b2) [59,58] [7,8,9,1,2,3,4,5,6,0] (upF J) Z
  | true,true,J,Z=>by kernel_rfl
  | true,false,J,Z=>by kernel_rfl
  | false,true,J,Z=>by kernel_rfl
  | false,false,J,Z=>by kernel_rfl
theorem va_pD2r (w:World){v:List Iv}{W o a b c:Nat→Nat}{N:Nat}{dd cc d pos:Nat→Nat}(h:OOk W o)(r:ROk W o N dd cc pos)(b1 b2:Bool):ValidAll prg w (gl w.params) (pD2r_cs w.params v W o a b c N dd cc d b1 b2):=vc (fun J Z=>ok_iaddB rfl) rfl (vc (fun J Z=>ok_sortT rfl (sort_names (cc:=fun j=>j) id_perm)) rfl (va_nil))
end
section
open PySem PySem.W PySem.W.X PySem.Spec PySem.Calls
set_option maxHeartbeats 1000000
theorem at_of_tst {w:World}{A:Around}{c:Code}{m:Sem Bool}{Q:Bool→Shared→Prop}{E:Value→Shared→Prop}{s:Shared}
    (h:wpOwn (model prg w) { A with frames:=none,guards:=none } c (Sem.bind m fun v=>.pure (.done (.ret (.bool v)))) (postC prg w { A with frames:=none,guards:=none } fun r s'=>match r with | .ok (.ret (.bool v))=>Q v s' | .ok _=>False | .error e=>E e s')
      (postE fun r s'=>match r with | .ok (.ret (.bool v))=>Q v s' | .ok _=>False | .error e=>E e s') s):wpAt (model prg w) A c m Q E s:=fun Γ p hc hΓ=>by
  have h1:=h Γ p hc ⟨hΓ.1,by have:=hΓ.2.1;show _≤A.depth;omega,(fun _ h=>by cases h),(fun _ h=>by cases h),by have:=hΓ.2.2.2.2;show _≤A.units;unfold Ctx.units at this;omega⟩
  show Sem.wp _ _ _ _ _ _ _
  have h2:Sem.wp (model prg w) Γ (m >>= fun v=>Sem.pure (Fin.done (Flow.ret (.bool v)))) _ _ p s:=h1
  rw [Sem.wp_bind'] at h2
  exact Sem.wp_mono _ Γ m (fun a p' s' h'=>h') (fun _ _ _ h'=>h') p s h2
theorem wpAt_holding {w:World}{A:Around}{c:Code}{α:Type}{vs:List Value}{m:Sem α}{Q:α→Shared→Prop}{E:Value→Shared→Prop}{s:Shared}(h:wpAt (model prg w) A c m Q E s):wpAt (model prg w) A c (holding vs m) Q E s:=fun Γ p hc hΓ=>by
  rw [Sem.wp_holding];exact h Γ p hc hΓ
theorem has_in {h:Heap}{n:Nat}{J:Nu}{os:List Obj}(H:Has h (rng n J) os){j:Nat}(hj:j<n){o:Obj}(e:os[j]?=some o):h.get? (J j)=some o:=by
  obtain ⟨o',h1,h2⟩:=H.at (j:=j) (a:=J j) (by unfold rng;rw [List.getElem?_map,List.getElem?_range hj];rfl)
  rw [e] at h1
  cases h1
  exact h2
theorem rows_like {A:Around}{s:Shared}{x y l1 l2:Addr}{ps qs:List (Str×Tok)}{m d z:Str}{n:Int}{a b c f a' b' c' f' e1 e2 e3 e4:Nat}(h:ps.map (·.1)=qs.map (·.1))(hu:A.units≤9000)(hne:l1≠l2)
    (h0:s.heap.get? x=some (lst (rw5 m a l1 d b z c n f) e1)) (h1:s.heap.get? y=some (lst (rw5 m a' l2 d b' z c' n f') e2)) (h2:s.heap.get? l1=some (lst (strValues ps) e3)) (h3:s.heap.get? l2=some (lst (strValues qs) e4)) :
    SeqAt.RcNeAt A s (.ref x) (.ref y) false:=by
  have hl:ps.length=qs.length:=by
    have:=congrArg List.length h
    rwa [List.length_map,List.length_map] at this
  have hz:(strValues ps).toArray.size=(strValues qs).toArray.size:=by simp [strValues,hl]
  have inner:SeqAt.EqAt A.in1 s (.ref l1) (.ref l2) true:=by
    have hall:((List.range (strValues ps).toArray.size).all fun _=>true)=true:=by simp
    rw [← hall]
    refine SeqAt.EqAt.of_refs hne (SeqAt.RcAt.lists (isList_lst h2) (isList_lst h3) hz ?_ fun j j1 j2=>?_)
    · show A.units+1<9900
      omega
    · obtain ⟨k1,g1⟩:=sv_get (ps:=ps) j1
      obtain ⟨k2,g2⟩:=sv_get (ps:=qs) j2
      rw [g1,g2]
      have e:ps[j].1=qs[j].1:=by
        have:=congrArg (fun l=>l[j]?) h
        simp only [List.getElem?_map] at this
        rw [List.getElem?_eq_getElem k1,List.getElem?_eq_getElem k2] at this
        exact Option.some.inj this
      have:=SeqAt.EqAt.str_str (A:=A.in1.in1) (s:=s) ps[j].1 ps[j].2 qs[j].1 qs[j].2
      have e2:(ps[j].1==qs[j].1)=true:=by rw [e];exact beq_self_eq_true _
      rw [e2] at this
      exact this
  have hall:(!(List.range (rw5 m a l1 d b z c n f).toArray.size).all fun _=>true)=false:=by simp
  rw [← hall]
  refine SeqAt.RcNeAt.lists (isList_lst h0) (isList_lst h1) rfl ?_ fun j j1 j2=>?_
  · show A.units<9900
    omega
  · have hs:∀ (x:Str) (t u:Nat),SeqAt.EqAt A.in1 s (.str x t) (.str x u) true:=fun x t u=>by
      have:=SeqAt.EqAt.str_str (A:=A.in1) (s:=s) x t x u
      rwa [beq_self_eq_true] at this
    have j1:j<5:=j1
    match j,j1 with
    | 0,_=>exact hs m a a'
    | 1,_=>exact inner
    | 2,_=>exact hs d b b'
    | 3,_=>exact hs z c c'
    | 4,_ =>
      have:=SeqAt.EqAt.int_int (A:=A.in1) (s:=s) n f n f'
      rwa [beq_self_eq_true] at this
section
variable {w:World}{v:List Iv}{W o a b c:Nat→Nat}{N:Nat}{dd cc d pos:Nat→Nat}
noncomputable def X_pD2 (Pw:Params)(v:List Iv)(W o a b c:Nat→Nat)(N:Nat)(dd cc d:Nat→Nat):Spec:={ X_pD2a Pw v W o a b c N dd cc d with res:=fun _ _=>.ok .next }
theorem if15:∃ p0 p1 body,stOf 14=.If (.BoolOp .Or [eA15,eB15] p0) body [] p1:=⟨_,_,_,rfl⟩
theorem cmp15:∃ p0,eB15=.Compare (cmpL eB15) [.NotEq] [cmpR eB15] p0:=⟨_,rfl⟩
theorem mk15 (t:Sem Value):markedBehindIn .NotEq (cmpR eB15) t=t:=rfl
theorem hU15 {X:Spec}{Pw:Params}(e0:X.n0=57)(ep:X.pre=(X_pD2a Pw v W o a b c N dd cc d).pre):∀ (J:Nu) (s:Shared),Has s.heap (rng X.n0 J) (X.pre (trunc X.n0 J))→∀ J':Nu,(∀ j,183≤J' j)→(∀ j,j<X.n0→J' j=J j)→∃ ρ,upF ρ=J':=by
  intro J s hp J' h1 h2
  rw [e0] at hp h2
  rw [ep] at hp
  exact hU_F (X:=X_pD2a Pw v W o a b c N dd cc d) (Nat.le_of_ble_eq_true rfl) (fun _=>rfl) (fun _=>rfl) J s hp J' h1 h2
theorem ok_pD2 (h:OOk W o)(r:ROk W o N dd cc pos):StOk w (X_pD2 w.params v W o a b c N dd cc d) [stOf 14] lwE:=by
  intro J A s sA hg hp hnd hout
  obtain ⟨p0,p1,body,e14⟩:=if15
  have hp:Has s.heap (rng 57 J) ((X_pD2a w.params v W o a b c N dd cc d).pre (trunc 57 J)):=hp
  have hnd:(rng 57 J).Nodup:=hnd
  have hout:∀ a∈rng 57 J,gl w.params a=none∧183≤a:=hout
  have sA:Small A 330:=sA
  show wpAt _ _ (.func lwB (lwE J)) _ _ _ s
  rw [e14]
  refine ks_wpAt_execs_cons (ks_wpAt_If ?_)
  rw [arm_isTrue_BoolOp,arm_allTrue_cons]
  refine wpAt_bind (at_of_tst ?_)
  have sA2:Small { A with frames:=none,guards:=none } 330:=sA
  have stepA:∀ {Q:Bool→Shared→Prop},(∀ s1,(∃ μ θ,Ends w (X_pD2a w.params v W o a b c N dd cc d) J s (.ok (.ret (.bool false))) s1 μ θ)→Q false s1) →
      wpOwn (model prg w) { A with frames:=none,guards:=none } (.func lwB (lwE J)) (tstT eA15 (lwE J)) (postC prg w { A with frames:=none,guards:=none } fun r s'=>match r with | .ok (.ret (.bool v))=>Q v s' | .ok _=>False | .error e=>False)
        (postE fun r s'=>match r with | .ok (.ret (.bool v))=>Q v s' | .ok _=>False | .error e=>False) s:=by
    intro Q hQ
    have key:=wp_runG (w:=w) (X:=X_pD2a w.params v W o a b c N dd cc d) (U:=upF) (t:=fun J=>tstD eA15 (lwE J)) (ns:=[]) (ts:=[]) (va_pD2a w (v:=v) (W:=W) (o:=o) (a:=a) (b:=b) (c:=c) (N:=N) (dd:=dd) (cc:=cc) (d:=d) h r (row1 w) (row2 w)) rfl rfl List.nodup_nil (fun _ h=>by cases h) (run_pD2a v W o a b c N dd cc d w.params (row1 w) (row2 w)) (hU15 rfl rfl J s hp) (J:=J) (A:={ A with frames:=none,guards:=none }) (s:=s) sA2 hg hp hnd hout
      (R:=fun r s'=>match r with | .ok (.ret (.bool v))=>Q v s' | .ok _=>False | .error e=>False) (fun r s' h=>by
        obtain ⟨μ,θ,E⟩:=h
        have e:r=.ok (.ret (.bool false)):=E.res
        subst e
        exact hQ s' ⟨μ,θ,E⟩)
    rw [← tst_eq] at key
    exact key
  refine stepA fun s1 h1=>?_
  obtain ⟨μ1,θ1,E1⟩:=h1
  have F1:After (gl w.params) (rng 57 J) s s1:=E1.after
  have pre_same:∀ μ:Nu,Agree 57 μ J→(X_pD2a w.params v W o a b c N dd cc d).pre μ=(X_pD2a w.params v W o a b c N dd cc d).pre (trunc 57 J):=fun μ hm=>by
    have:trunc 57 μ=trunc 57 J:=trunc_eq hm
    show (X_pD2a w.params v W o a b c N dd cc d).pre (trunc 57 μ)=_
    rw [this]
  have hp1:Has s1.heap (rng 57 J) ((X_pD2a w.params v W o a b c N dd cc d).pre (trunc 57 J)):=by
    rw [← pre_same μ1 E1.agree]
    exact E1.post
  show wpAt _ _ _ (allTrue .Or [eB15] (lwE J)) _ _ s1
  rw [arm_allTrue_cons]
  refine wpAt_bind ?_
  obtain ⟨p2,e15⟩:=cmp15
  rw [e15,isTrue_Compare1]
  refine wpAt_bind (at_of_own ?_)
  have stepL:∀ {Q:Value→Shared→Prop},(∀ s',(∃ μ θ,Ends w (X_pD2l w.params v W o a b c N dd cc d) J s1 (.ok (.ret (.ref (μ 55)))) s' μ θ)→∀ μ θ,Ends w (X_pD2l w.params v W o a b c N dd cc d) J s1 (.ok (.ret (.ref (μ 55)))) s' μ θ→Q (.ref (μ 55)) s') →
      wpOwn (model prg w) { A with frames:=none,guards:=none } (.func lwB (lwE J)) (evlT (cmpL eB15) (lwE J)) (postC prg w { A with frames:=none,guards:=none } fun r s'=>match r with | .ok (.ret v)=>Q v s' | .ok _=>False | .error e=>False)
        (postE fun r s'=>match r with | .ok (.ret v)=>Q v s' | .ok _=>False | .error e=>False) s1:=by
    intro Q hQ
    have key:=wp_runG (w:=w) (X:=X_pD2l w.params v W o a b c N dd cc d) (U:=upF) (t:=fun J=>evlD (cmpL eB15) (lwE J)) (ns:=[]) (ts:=[]) (va_pD2l w (v:=v) (W:=W) (o:=o) (a:=a) (b:=b) (c:=c) (N:=N) (dd:=dd) (cc:=cc) (d:=d) h r (row1 w) (row2 w)) rfl rfl List.nodup_nil (fun _ h=>by cases h) (run_pD2l v W o a b c N dd cc d w.params (row1 w) (row2 w)) (hU15 (v:=v) (W:=W) (o:=o) (a:=a) (b:=b) (c:=c) (N:=N) (dd:=dd) (cc:=cc) (d:=d) rfl rfl J s1 hp1) (J:=J) (A:={ A with frames:=none,guards:=none }) (s:=s1) sA2 F1.glob hp1 hnd hout
      (R:=fun r s'=>match r with | .ok (.ret v)=>Q v s' | .ok _=>False | .error e=>False) (fun r s' h=>by
        obtain ⟨μ,θ,E⟩:=h
        have e:r=.ok (.ret (.ref (μ 55))):=E.res
        subst e
        exact hQ s' ⟨μ,θ,E⟩ μ θ E)
    rw [← evl_eq] at key
    exact key
  refine stepL fun s2 _ μ2 θ2 E2=>?_
  have F2:After (gl w.params) (rng 57 J) s1 s2:=E2.after
  have a2:μ2 55=J 55:=E2.agree 55 (show 55<57 by decide)
  have hp2:Has s2.heap (rng 57 J) ((X_pD2a w.params v W o a b c N dd cc d).pre (trunc 57 J)):=by
    rw [← pre_same μ2 E2.agree]
    exact E2.post
  rw [a2]
  refine wpAt_bind (wpAt_holding ?_)
  rw [mk15]
  refine at_of_own ?_
  have stepR:∀ {Q:Value→Shared→Prop},(∀ s',(∃ μ θ,Ends w (X_pD2r w.params v W o a b c N dd cc d) J s2 (.ok (.ret (.ref (μ 57)))) s' μ θ)→∀ μ θ,Ends w (X_pD2r w.params v W o a b c N dd cc d) J s2 (.ok (.ret (.ref (μ 57)))) s' μ θ→Q (.ref (μ 57)) s') →
      wpOwn (model prg w) { A with frames:=none,guards:=none } (.func lwB (lwE J)) (evlT (cmpR eB15) (lwE J)) (postC prg w { A with frames:=none,guards:=none } fun r s'=>match r with | .ok (.ret v)=>Q v s' | .ok _=>False | .error e=>False)
        (postE fun r s'=>match r with | .ok (.ret v)=>Q v s' | .ok _=>False | .error e=>False) s2:=by
    intro Q hQ
    have key:=wp_runG (w:=w) (X:=X_pD2r w.params v W o a b c N dd cc d) (U:=upF) (t:=fun J=>evlD (cmpR eB15) (lwE J)) (ns:=[59,58]) (ts:=[7,8,9,1,2,3,4,5,6,0]) (va_pD2r w (v:=v) (W:=W) (o:=o) (a:=a) (b:=b) (c:=c) (N:=N) (dd:=dd) (cc:=cc) (d:=d) h r (row1 w) (row2 w)) rfl rfl (by decide) (show ∀ j∈([59,58]:List Nat),57≤j by decide) (run_pD2r v W o a b c N dd cc d w.params (row1 w) (row2 w)) (hU15 (v:=v) (W:=W) (o:=o) (a:=a) (b:=b) (c:=c) (N:=N) (dd:=dd) (cc:=cc) (d:=d) rfl rfl J s2 hp2) (J:=J) (A:={ A with frames:=none,guards:=none }) (s:=s2) sA2 F2.glob hp2 hnd hout
      (R:=fun r s'=>match r with | .ok (.ret v)=>Q v s' | .ok _=>False | .error e=>False) (fun r s' h=>by
        obtain ⟨μ,θ,E⟩:=h
        have e:r=.ok (.ret (.ref (μ 57))):=E.res
        subst e
        exact hQ s' ⟨μ,θ,E⟩ μ θ E)
    rw [← evl_eq] at key
    exact key
  refine stepR fun s3 _ μ3 θ3 E3=>?_
  have F3:After (gl w.params) (rng 57 J) s2 s3:=E3.after
  have hp3:Has s3.heap (rng 57 J) ((X_pD2a w.params v W o a b c N dd cc d).pre (trunc 57 J)):=by
    rw [← pre_same μ3 E3.agree]
    exact E3.post
  have nw:Has s3.heap [μ3 57,μ3 58] [lst (rw5 (lS (mailC dd cc)) (c 3) (μ3 58) ⟨#[]⟩ (θ3 0) ⟨#[]⟩ (θ3 1) 12 (θ3 2)) 0,lst (strValues (sv6 qN (fun j=>θ3 (j+3)))) (θ3 9)]:=E3.new
  obtain ⟨n1,n2⟩:=has_cons.mp nw
  obtain ⟨n2,_⟩:=has_cons.mp n2
  have g55:s3.heap.get? (J 55)=some (lst (rw5 (lS (mailC dd cc)) (d 16) (J 56) ⟨#[]⟩ (d 1) ⟨#[]⟩ (d 17) 12 (d 3)) 0):=has_in hp3 (by decide) rfl
  have g56:s3.heap.get? (J 56)=some (lst (strValues (sv6 qN (fun j=>d (j+18)))) (d 24)):=has_in hp3 (by decide) rfl
  have ne:J 56≠μ3 58:=fun z=>by
    have h1:s2.heap.objs.size≤μ3 58:=E3.fresh 1 (show 1<2 by decide)
    have h2:J 56<s2.heap.objs.size:=has_mem hp2 _ (List.mem_map.mpr ⟨56,List.mem_range.mpr (by decide),rfl⟩)
    rw [z] at h2
    exact absurd h2 (Nat.not_lt.mpr h1)
  refine wpAt_of_wpAny (wpAny_bind (wpAny_standAt (wpAny_bind (PyProof.Rows.wpAny_operate' ?_))))
  have hun:A.units≤9000:=by
    have:A.units≤10*330:=sA.2.2
    omega
  refine rows_like (ps:=sv6 qN (fun j=>d (j+18))) (qs:=sv6 qN (fun j=>θ3 (j+3))) rfl hun ne g55 n1 g56 n2 _ _ _ _ ?_
  refine wpAny_holding (wpAny_truthy_bool ?_)
  show wpAt _ _ _ (allTrue .Or [] (lwE J)) _ _ s3
  rw [arm_allTrue_nil]
  refine wpAt_of_wpAny (wpAny_pure ?_)
  show wpAt _ _ _ (execs [] (lwE J)) _ _ s3
  rw [execs_nil]
  refine wpAt_of_wpAny (wpAny_pure ?_)
  show wpAt _ _ _ (execs [] (lwE J)) _ _ s3
  rw [execs_nil]
  refine wpAt_of_wpAny (wpAny_pure ⟨trunc 57 J,fun _=>0,fun j hj=>trunc_lt J hj,fun j hj=>trunc_ge J hj,fun _ _=>rfl,rfl,hp3,rfl,fun j hj=>absurd hj (Nat.not_lt_zero j),fun j j' hj=>absurd hj (Nat.not_lt_zero j),after_trans (after_trans F1 F2 fun b hb=>.inl hb) F3 fun b hb=>.inl hb⟩)
end
end
section
open PySem PySem.W PySem.W.X PySem.Spec PySem.Calls
set_option maxHeartbeats 0
noncomputable def X_pD3 (Pw:Params)(v:List Iv)(W o a b c:Nat→Nat)(N:Nat)(dd cc d:Nat→Nat):Spec:={ n0:=57,k:=0,nt:=0,d:=330,code:=fun J=>.func lwB (lwE J),pre:=fun J=>[tbF 183 (J 0) [.int 91 0,.int 18 0,.ref (J 27)],tbF 209 (J 1) [.int 121 0,.int 33 0,.ref (J 14)],ro v 0,frm [⟨hsh Pw sOrder,.str sOrder (a 14),.ref (J 13)⟩,⟨hsh Pw sLine,.str sLine (b 0),.ref (J 20)⟩,⟨hsh Pw sPile,.str sPile (b 1),.ref (J 36)⟩,⟨hsh Pw sKk,.str sKk (b 2),.int (o 5:Nat) (a 6)⟩,⟨hsh Pw sLast,.str sLast (c 0),.str (txS (N,(mailC dd cc))) (c 1)⟩,⟨hsh Pw sMail,.str sMail (c 2),.str (lS (mailC dd cc)) (c 3)⟩,⟨hsh Pw sDots,.str sDots (d 0),.str ⟨#[]⟩ (d 1)⟩,⟨hsh Pw sRows,.str sRows (d 2),.ref (J 55)⟩] 8,cellO (.ref (J 2)),cellO (.ref (J 11)),cellO (.ref (J 44)),cellO (.ref (J 54)),cell0,cell0,cellO (.ref (J 12)),lst [.str ⟨#[97]⟩ (a 15),.str ⟨#[98,34]⟩ (a 16),.str ⟨#[35]⟩ (a 17),.str ⟨#[100]⟩ (a 18),.str ⟨#[101]⟩ (a 19),.str ⟨#[102]⟩ (a 20)] 0,ro (wI W (fun j=>a (j+8))) 6,ro (oI o (fun j=>a (j+1))) (a 7),codO (.str sLambda (a 21)) sKeyQ (a 22) (codR 121 33 (a 23) (J 15) (J 16) (J 17) (J 18) (J 19) (a 26) (a 27)),tupT [.str sWeights (a 24)],tbl [],tupT [.str sKk (a 25)],tupT [],tmpO sKeyQ lamK,lexO (J 21),lexD (hLex Pw) (fLex (b 4) (b 5) (b 6) (b 7) (b 8) 0) (.int 1 (b 3)) (.ref (J 23)) (J 22) [] 4,lst [.str (lS (mailC dd cc)) (c 3)] ((c 23)+1+1),lexO (J 24),lexD (hLex Pw) (fLex (b 10) (b 11) (b 12) (b 13) (b 14) (b 15)) (.int 1 (b 9)) .none (J 25) [⟨hsh Pw sRead,.str sRead (b 15),.ref (J 26)⟩] 5,lst [] 0,lamO lamP (J 28) (J 27) (J 29),codO (.str sLambda (b 16)) sLamQ (b 17) (codR 91 18 (b 18) (J 30) (J 31) (J 32) (J 33) (J 34) (b 21) (b 22)),cellO (.ref (J 35)),tupT [.ref (J 28)],tupT [.str sLeft (b 19)],tbl [],tupT [.str sSize (b 20)],tupT [],tmpO sLamQ lamP,lst [] (EE o (b 36) 6),accO (J 37) [] (c 24),accD (hsh Pw sInit) (b 23) 305,tupO [.str (sp (W (o 0))) (b 24),.str (lS (46::10::nmC (o 0))) (b 25)],tupO [.str (sp (W (o 1))) (b 26),.str (lS (46::10::nmC (o 1))) (b 27)],tupO [.str (sp (W (o 2))) (b 28),.str (lS (46::10::nmC (o 2))) (b 29)],tupO [.str (sp (W (o 3))) (b 30),.str (lS (46::10::nmC (o 3))) (b 31)],tupO [.str (sp (W (o 4))) (b 32),.str (lS (46::10::nmC (o 4))) (b 33)],tupO [.str (sp (W (o 5))) (b 34),.str (lS (46::10::nmC (o 5))) (b 35)],lexO (J 45),lexD (hLex Pw) (fLex (c 5) (c 6) (c 7) (c 8) (c 9) 0) (.int 12 (d 3)) (.ref (J 47)) (J 46) [] 4,lst [] (1+1),lexO (J 48),lexD (hLex Pw) (fLex (c 11) (c 12) (c 13) (c 14) (c 15) (c 16)) (.int 1 (c 10)) .none (J 49) [⟨hsh Pw sRead,.str sRead (c 16),.ref (J 50)⟩] 5,lst [] 0,lamO lamP (J 51) (J 27) (J 52),cellO (.ref (J 53)),tupT [.ref (J 51)],lst [] (EM dd cc (c 19) 12),lst [.str (txS (N,(mailC dd cc))) (c 1),.str (lS (dC (dd 0))) (d 4),.str (nmS (cc 0)) (d 5),.str (lS (dC (dd 1))) (d 6),.str (nmS (cc 1)) (d 7),.str (lS (dC (dd 2))) (d 8),.str (nmS (cc 2)) (d 9),.str (lS (dC (dd 3))) (d 10),.str (nmS (cc 3)) (d 11),.str (lS (dC (dd 4))) (d 12),.str (nmS (cc 4)) (d 13),.str (lS (dC (dd 5))) (d 14),.str (nmS (cc 5)) (d 15)] 13,lst (rw5 (lS (mailC dd cc)) (d 16) (J 56) ⟨#[]⟩ (d 1) ⟨#[]⟩ (d 17) 12 (d 3)) 0,lst (strValues (sv6 qN (fun j=>d (j+18)))) (d 24)],res:=fun J Z=>.ok .next,post:=fun J Z=>[tbF 183 (J 0) [.int 91 0,.int 18 0,.ref (J 27)],tbF 209 (J 1) [.int 121 0,.int 33 0,.ref (J 14)],ro v 0,frm [⟨hsh Pw sOrder,.str sOrder (a 14),.ref (J 13)⟩,⟨hsh Pw sLine,.str sLine (b 0),.ref (J 20)⟩,⟨hsh Pw sPile,.str sPile (b 1),.ref (J 36)⟩,⟨hsh Pw sKk,.str sKk (b 2),.int (o 5:Nat) (a 6)⟩,⟨hsh Pw sLast,.str sLast (c 0),.str (txS (N,(mailC dd cc))) (c 1)⟩,⟨hsh Pw sMail,.str sMail (c 2),.str (lS (mailC dd cc)) (c 3)⟩,⟨hsh Pw sDots,.str sDots (d 0),.str ⟨#[]⟩ (d 1)⟩,⟨hsh Pw sRows,.str sRows (d 2),.ref (J 55)⟩] 8,cellO (.ref (J 2)),cellO (.ref (J 11)),cellO (.ref (J 44)),cellO (.ref (J 54)),cell0,cell0,cellO (.ref (J 12)),lst [.str ⟨#[97]⟩ (a 15),.str ⟨#[98,34]⟩ (a 16),.str ⟨#[35]⟩ (a 17),.str ⟨#[100]⟩ (a 18),.str ⟨#[101]⟩ (a 19),.str ⟨#[102]⟩ (a 20)] 0,ro (wI W (fun j=>a (j+8))) 6,ro (oI o (fun j=>a (j+1))) (a 7),codO (.str sLambda (a 21)) sKeyQ (a 22) (codR 121 33 (a 23) (J 15) (J 16) (J 17) (J 18) (J 19) (a 26) (a 27)),tupT [.str sWeights (a 24)],tbl [],tupT [.str sKk (a 25)],tupT [],tmpO sKeyQ lamK,lexO (J 21),lexD (hLex Pw) (fLex (b 4) (b 5) (b 6) (b 7) (b 8) 0) (.int 1 (b 3)) (.ref (J 23)) (J 22) [] 4,lst [] (c 23+1+1+1),lexO (J 24),lexD (hLex Pw) (fLex (b 10) (b 11) (b 12) (b 13) (b 14) (b 15)) (.int 1 (b 9)) .none (J 25) [⟨hsh Pw sRead,.str sRead (b 15),.ref (J 26)⟩] 5,lst [] 0,lamO lamP (J 28) (J 27) (J 29),codO (.str sLambda (b 16)) sLamQ (b 17) (codR 91 18 (b 18) (J 30) (J 31) (J 32) (J 33) (J 34) (b 21) (b 22)),cellO (.ref (J 35)),tupT [.ref (J 28)],tupT [.str sLeft (b 19)],tbl [],tupT [.str sSize (b 20)],tupT [],tmpO sLamQ lamP,lst [] (EE o (b 36) 6),accO (J 37) [] (c 24),accD (hsh Pw sInit) (b 23) 305,tupO [.str (sp (W (o 0))) (b 24),.str (lS (46::10::nmC (o 0))) (b 25)],tupO [.str (sp (W (o 1))) (b 26),.str (lS (46::10::nmC (o 1))) (b 27)],tupO [.str (sp (W (o 2))) (b 28),.str (lS (46::10::nmC (o 2))) (b 29)],tupO [.str (sp (W (o 3))) (b 30),.str (lS (46::10::nmC (o 3))) (b 31)],tupO [.str (sp (W (o 4))) (b 32),.str (lS (46::10::nmC (o 4))) (b 33)],tupO [.str (sp (W (o 5))) (b 34),.str (lS (46::10::nmC (o 5))) (b 35)],lexO (J 45),lexD (hLex Pw) (fLex (c 5) (c 6) (c 7) (c 8) (c 9) 0) (.int 12 (d 3)) (.ref (J 47)) (J 46) [] 4,lst [] (1+1),lexO (J 48),lexD (hLex Pw) (fLex (c 11) (c 12) (c 13) (c 14) (c 15) (c 16)) (.int 1 (c 10)) .none (J 49) [⟨hsh Pw sRead,.str sRead (c 16),.ref (J 50)⟩] 5,lst [] 0,lamO lamP (J 51) (J 27) (J 52),cellO (.ref (J 53)),tupT [.ref (J 51)],lst [] (EM dd cc (c 19) 12),lst [.str (txS (N,(mailC dd cc))) (c 1),.str (lS (dC (dd 0))) (d 4),.str (nmS (cc 0)) (d 5),.str (lS (dC (dd 1))) (d 6),.str (nmS (cc 1)) (d 7),.str (lS (dC (dd 2))) (d 8),.str (nmS (cc 2)) (d 9),.str (lS (dC (dd 3))) (d 10),.str (nmS (cc 3)) (d 11),.str (lS (dC (dd 4))) (d 12),.str (nmS (cc 4)) (d 13),.str (lS (dC (dd 5))) (d 14),.str (nmS (cc 5)) (d 15)] 13,lst (rw5 (lS (mailC dd cc)) (d 16) (J 56) ⟨#[]⟩ (d 1) ⟨#[]⟩ (d 17) 12 (d 3)) 0,lst (strValues (sv6 qN (fun j=>d (j+18)))) (d 24)],new:=fun J Z=>[] }
noncomputable def pD3_hs (b1 b2:Bool):List Nat:=[0,0,4,0,0,4,0,0,11,4,21,0,0,0,21,0,0,0,21,0,0,0,0,21,22,0,4,4,37,0,0,0,37,0,0,0,37,0,0,0,0,37,38,0]
noncomputable def pD3_cs (Pw:Params)(v:List Iv)(W o a b c:Nat→Nat)(N:Nat)(dd cc d:Nat→Nat)(b1 b2:Bool):List Ev:=[evX (fun J Z=>X_lenS (txS (N,(mailC dd cc))) (c 1)) [] 1 57 0,evX (fun J Z=>X_lenS (lS (mailC dd cc)) (c 3)) [] 1 57 1,evX (fun J Z=>X_isub2 ((txS (N,(mailC dd cc))).length:Int) (Z 0) ((lS (mailC dd cc)).length:Int) (Z 1) (N:Int)) [] 1 57 2,evX (fun J Z=>X_sum (wI W (fun j=>a (j+8))) 6) [12] 1 57 3,evX (fun J Z=>X_ine (N:Int) (Z 2) ((wI W (fun j=>a (j+8))).map (·.1)).sum (Z 3) false) [] 1 57 4,evX (fun J Z=>X_gtpop (hLex Pw) (fLex (b 4) (b 5) (b 6) (b 7) (b 8) 0) (.int 1 (b 3)) (.ref (J 23)) (c 23+1+1) 4 [] (lS (mailC dd cc)) (c 3) []) [20,21,22] 0 57 4,evX (fun J Z=>X_ne (lS (mailC dd cc)) (c 3) (lS (mailC dd cc)) (c 3) false) [] 1 57 4,evX (fun J Z=>X_pc (J 37) [] (c 24)) [36] 0 57 4,evX (fun J Z=>X_ine (([]:List Value).length:Nat) (Z 4) 0 (Z 5) false) [] 1 57 6]
theorem run_pD3 (v:List Iv)(W o a b c:Nat→Nat)(N:Nat)(dd cc d:Nat→Nat)(Pw:Params):∀ (b1 b2:Bool) (J Z:Nu),RG (X_pD3 Pw v W o a b c N dd cc d) (fun J=>stD [stOf 15] (lwE J)) Pw b1 b2 98 (pD3_hs b1 b2) (pD3_cs Pw v W o a b c N dd cc d b1 b2) [] [] (upF J) Z
  | true,true,J,Z=>by kernel_rfl
  | true,false,J,Z=>by kernel_rfl
  | false,true,J,Z=>by kernel_rfl
  | false,false,J,Z=>by kernel_rfl
theorem va_pD3 (w:World){v:List Iv}{W o a b c:Nat→Nat}{N:Nat}{dd cc d pos:Nat→Nat}(h:OOk W o)(r:ROk W o N dd cc pos)(b1 b2:Bool):ValidAll prg w (gl w.params) (pD3_cs w.params v W o a b c N dd cc d b1 b2):=vc (fun J Z=>ok_lenS (r.z.long h)) rfl (vc (fun J Z=>ok_lenS (r.z.short h)) rfl (vc (fun J Z=>ok_isub2 (len_diff N _)) rfl (vc (fun J Z=>ok_sum) rfl (vc (fun J Z=>ok_ine (sum_eq r.n _)) rfl (vc (fun J Z=>ok_gtpop w (Nat.lt_of_lt_of_le (by decide) (Nat.le_refl _))) rfl (vc (fun J Z=>ok_ne (ne_self _)) rfl (vc (fun J Z=>ok_pc w) rfl (vc (fun J Z=>ok_ine (by decide)) rfl (va_nil)))))))))
theorem ok_pD3 (w:World){v:List Iv}{W o a b c:Nat→Nat}{N:Nat}{dd cc d pos:Nat→Nat}(h:OOk W o)(r:ROk W o N dd cc pos):StOk w (X_pD3 w.params v W o a b c N dd cc d) [stOf 15] lwE :=
  st_of_runG (hs:=pD3_hs (row1 w) (row2 w)) (cs:=pD3_cs w.params v W o a b c N dd cc d (row1 w) (row2 w)) (ns:=[]) (ts:=[]) (va_pD3 w h r (row1 w) (row2 w)) rfl rfl (by decide) (show ∀ j∈([]:List Nat),57≤j by decide) (hU_F (Nat.le_of_ble_eq_true rfl) (fun _=>rfl) (fun _=>rfl)) (run_pD3 v W o a b c N dd cc d w.params (row1 w) (row2 w)) (fun _=>rfl) (fun _ _=>⟨_,rfl⟩)
end
section
open PySem PySem.W PySem.W.X PySem.Spec PySem.Calls PyProof.V
set_option maxHeartbeats 1000000
open PyProof.Rows in
theorem con_min {w:World}{d:Nat}{l:Addr}{v:List Iv}{e:Nat}(hne:0<v.length) :
    Con w d (.builtin "min" ⟨[.ref l],[]⟩) [l] [ro v e] (fun r os nw=>(∃ m t,r=.ok (.ret (.int m t))∧m∈v.map (·.1)∧∀ x∈v.map (·.1),m≤x)∧os=[ro v e]∧nw=[]):=by
  refine con_builtin (b:=Builtin.«min») F.plain_min F.entry_min fun A s R sA hg hpre hnd hout hR=>?_
  obtain ⟨h1,_⟩:=has_cons.mp hpre
  have hl:s.heap.IsList l (intItems v.toArray):=by rw [← ivs_items];exact isList_ro h1
  have hname:(toString "min" ++ toString ".loop" : String) = "min.loop" := by decide
  show wpAny _ A.in1 (Builtin.Builtins.bindParams "min" ["key","default"] 0 ⟨[],[]⟩ >>= _) _ _ s
  refine wpAny_bind (wpAny_of_eq (show Builtin.Builtins.bindParams "min" ["key","default"] 0 ⟨[],[]⟩=pure [none,none] from rfl) ?_)
  refine wpAny_bind (wpAny_pure ?_)
  refine wpAny_bind (iter_intList hl fun s₂ es st hfp hlI=>?_)
  refine wpAny_bind (wpAny_newObj_type ?_)
  have W:=Walks.list (prog:=prg) (w:=w) (A:=A.in1) sA.1 _ l hlI (intItems v.toArray)
  have hSf:s₂.heap.objs.size ∉ [s.heap.objs.size,l]:=fun hm=>Nat.lt_irrefl _ (hfp _ hm)
  have k1:∀ b o,s.heap.get? b=some o→s₂.heap.get? b=some o:=fun b o e=>by rw [es];exact Heap.get?_push_of_some _ e
  have sz:s₂.heap.objs.size=s.heap.objs.size+1:=by rw [es];exact Heap.size_push ..
  rw [hname]
  refine wpAny_pure ⟨plainId_quiet F.plain_min_loop _,codeAny_mono (code_grow (codeAny_min_loop_first W (fun i j=>decide (numAt v.toArray i<numAt v.toArray j)) (CmpOf.ints_lt (numAt v.toArray) (fun _ _=>intItems_at)) s₂.heap.objs.size hSf (by simpa [intItems] using hne)
    (W.frame _ _ _ st fun b _ o e=>Heap.get?_push_of_some _ e) (Heap.get?_push_size _ rfl) (R:=fun r s'=>∃ m t h' tk,r=.ok (.ret (.int m t))∧(m∈v.map (·.1)∧∀ x∈v.map (·.1),m≤x)∧s'={ s with heap:=h',toks:=tk }∧∀ b o,s.heap.get? b=some o→h'.get? b=some o) fun x h' tk hP hk=>?_)) ?_⟩
  · obtain ⟨t,rfl⟩:=intItems_at hP
    obtain ⟨q1,q2⟩:=argBest_lt (numAt v.toArray) (v.toArray.size-1)
    have hsz:(intItems v.toArray).size=v.toArray.size:=by simp [intItems]
    rw [hsz]
    have hvl:v.toArray.size=v.length:=by simp
    refine ⟨_,t,h',tk,rfl,⟨?_,fun x hx=>?_⟩,by rw [es],fun b o e=>?_⟩
    · rw [numAt_eq,List.toList_toArray]
      exact getD_mem (by rw [List.length_map];omega)
    · obtain ⟨j,hj,rfl⟩:=mem_getD hx
      rw [List.length_map] at hj
      have:=q2 j (by omega)
      rw [numAt_eq _ j,List.toList_toArray] at this
      exact this
    · have hb:b<s.heap.objs.size:=Heap.lt_size e
      refine hk b o (fun hm=>?_) (fun hb2=>by rw [hb2,sz] at hb;exact absurd hb (Nat.not_lt.mpr (Nat.le_succ _))) (Heap.get?_push_of_some _ (k1 b o e))
      rw [List.mem_singleton.mp hm] at hb
      exact Nat.lt_irrefl _ hb
  · rintro r s' ⟨⟨m,t,h',tk,rfl,⟨m1,m2⟩,rfl,hk⟩,gr⟩
    have g1:=gr.size
    have g2:=gr.toks
    dsimp only at g1 g2
    rw [Heap.size_push] at g1
    have tk2:s₂.toks=s.toks:=by rw [es]
    exact hR _ _ ⟨[ro v e],[],⟨⟨m,t,rfl,m1,m2⟩,rfl,rfl⟩,has_cons.mpr ⟨hk _ _ h1,rfl⟩,(fun _ h=>by cases h),List.nodup_nil,after_of hg (fun a ha=>(hout a ha).1) (fun b o _ e=>hk b o e) ⟨by show _≤h'.objs.size;omega,by show _≤tk;omega⟩⟩
noncomputable def X_min (v:List Iv)(e:Nat)(m:Int):Spec:={ n0:=1,k:=0,nt:=1,d:=900,code:=fun J=>.builtin "min" ⟨[.ref (J 0)],[]⟩,pre:=fun _=>[ro v e],res:=fun _ θ=>.ok (.ret (.int m (θ 0))),post:=fun _ _=>[ro v e],new:=fun _ _=>[] }
theorem ok_min {w:World}{v:List Iv}{e:Nat}{m:Int}(hm:m∈v.map (·.1))(hl:∀ x∈v.map (·.1),m≤x):(X_min v e m).Ok w:=ok_of_con fun J=>(con_min (w:=w) (d:=900) (l:=J 0) (v:=v) (e:=e) (by
    cases v with
    | nil=>simp at hm
    | cons=>simp)).mono fun r os nw ⟨⟨m',t,h1,h2,h3⟩,h4,h5⟩=>⟨[t],rfl,by rw [h5];rfl,by
      have:m'=m:=Int.le_antisymm (h3 m hm) (hl m' h2)
      rw [h1,this];rfl,h4,by rw [h5];rfl⟩
noncomputable def X_sumR (v:List Iv)(e:Nat)(x:Int):Spec:={ n0:=1,k:=0,nt:=1,d:=900,code:=fun J=>.builtin "sum" ⟨[.ref (J 0)],[]⟩,pre:=fun _=>[ro v e],res:=fun _ θ=>.ok (.ret (.int x (θ 0))),post:=fun _ _=>[ro v e],new:=fun _ _=>[] }
theorem ok_sumR {w:World}{v:List Iv}{e:Nat}{x:Int}(h:(v.map (·.1)).sum=x):(X_sumR v e x).Ok w:=by
  have:=ok_sum (w:=w) (v:=v) (e:=e)
  unfold X_sum at this
  rw [h] at this
  exact this
noncomputable def lwC4:Expr:=asgE (stOf 16)
noncomputable def lwC5:Expr:=asgE (stOf 17)
noncomputable def lwC6:Expr:=argOf (asgE (stOf 18))
noncomputable def eltOf:Expr→Expr
  | .ListComp e _ _ _=>e
  | _=>default
noncomputable def lwC7:Expr:=argOf (eltOf lwC6)
noncomputable def retE:Stmt→Expr
  | .Return (some e) _=>e
  | _=>default
noncomputable def lwC8:Expr:=argOf (cmpL2 (retE (stOf 19)))
where cmpL2:Expr→Expr
  | .Compare l _ _ _=>l
  | _=>default
noncomputable def rI (r:Nat→Int)(rt:Nat→Nat):List Iv:=[(r 0,rt 0),(r 1,rt 1),(r 2,rt 2),(r 3,rt 3),(r 4,rt 4),(r 5,rt 5)]
noncomputable def mulI (r:Nat→Int)(W o f:Nat→Nat):List Iv:=[(r 0*((W (o 0):Nat):Int),f 0),(r 1*((W (o 1):Nat):Int),f 1),(r 2*((W (o 2):Nat):Int),f 2),(r 3*((W (o 3):Nat):Int),f 3),(r 4*((W (o 4):Nat):Int),f 4),(r 5*((W (o 5):Nat):Int),f 5)]
noncomputable def rowCost (r:Nat→Int)(W o:Nat→Nat):Int:=r 0*((W (o 0):Nat):Int)+(r 1*((W (o 1):Nat):Int)+(r 2*((W (o 2):Nat):Int)+(r 3*((W (o 3):Nat):Int)+(r 4*((W (o 4):Nat):Int)+(r 5*((W (o 5):Nat):Int)+0)))))
noncomputable def r5:Nat→Nat→Int
  | 0=>pick [2,2,3,3,3,3] 0
  | 1=>pick [2,2,2,3,4,4] 0
  | 2=>pick [1,3,3,3,4,4] 0
  | 3=>pick [1,2,4,4,4,4] 0
  | _=>pick [1,2,3,4,5,5] 0
noncomputable def costs (W o f:Nat→Nat):List Iv:=[(rowCost (r5 0) W o,f 0),(rowCost (r5 1) W o,f 1),(rowCost (r5 2) W o,f 2),(rowCost (r5 3) W o,f 3),(rowCost (r5 4) W o,f 4)]
noncomputable def myCost (W D:Nat→Nat):Int:=((W 0:Nat):Int)*((D 0:Nat):Int)+(((W 1:Nat):Int)*((D 1:Nat):Int)+(((W 2:Nat):Int)*((D 2:Nat):Int)+(((W 3:Nat):Int)*((D 3:Nat):Int)+(((W 4:Nat):Int)*((D 4:Nat):Int)+(((W 5:Nat):Int)*((D 5:Nat):Int)+0)))))
structure COk (W o:Nat→Nat)(dd pos D:Nat→Nat):Prop where
  d:∀ k,k<6→((dd (pos k):Nat):Int)-1=((D k:Nat):Int)
  mem:myCost W D=rowCost (r5 0) W o∨myCost W D=rowCost (r5 1) W o∨myCost W D=rowCost (r5 2) W o∨myCost W D=rowCost (r5 3) W o∨myCost W D=rowCost (r5 4) W o
  le:∀ i,i<5→myCost W D≤rowCost (r5 i) W o
end
section
open PySem PySem.W PySem.W.X PySem.Spec PySem.Calls
set_option maxHeartbeats 0
noncomputable def TV (N:Nat)(dd cc:Nat→Nat)(tl:Nat)(td:Nat→Nat):List (Str×Tok):=[(txS (N,mailC dd cc),tl),(lS (dC (dd 0)),td 0),(nmS (cc 0),td 1),(lS (dC (dd 1)),td 2),(nmS (cc 1),td 3),(lS (dC (dd 2)),td 4),(nmS (cc 2),td 5),(lS (dC (dd 3)),td 6),(nmS (cc 3),td 7),(lS (dC (dd 4)),td 8),(nmS (cc 4),td 9),(lS (dC (dd 5)),td 10),(nmS (cc 5),td 11)]
theorem tv_name {N:Nat}{dd cc:Nat→Nat}{tl:Nat}{td:Nat→Nat}:∀ i,i<6→∃ h:2*i+2<(TV N dd cc tl td).length,(TV N dd cc tl td)[2*i+2].1=nmS (cc i)
  | 0,_=>⟨Nat.le_of_ble_eq_true rfl,rfl⟩
  | 1,_=>⟨Nat.le_of_ble_eq_true rfl,rfl⟩
  | 2,_=>⟨Nat.le_of_ble_eq_true rfl,rfl⟩
  | 3,_=>⟨Nat.le_of_ble_eq_true rfl,rfl⟩
  | 4,_=>⟨Nat.le_of_ble_eq_true rfl,rfl⟩
  | 5,_=>⟨Nat.le_of_ble_eq_true rfl,rfl⟩
theorem tv_dots {N:Nat}{dd cc:Nat→Nat}{tl:Nat}{td:Nat→Nat}:∀ i,i<6→∃ h:2*i+1<(TV N dd cc tl td).length,(TV N dd cc tl td)[2*i+1].1=lS (dC (dd i))
  | 0,_=>⟨Nat.le_of_ble_eq_true rfl,rfl⟩
  | 1,_=>⟨Nat.le_of_ble_eq_true rfl,rfl⟩
  | 2,_=>⟨Nat.le_of_ble_eq_true rfl,rfl⟩
  | 3,_=>⟨Nat.le_of_ble_eq_true rfl,rfl⟩
  | 4,_=>⟨Nat.le_of_ble_eq_true rfl,rfl⟩
  | 5,_=>⟨Nat.le_of_ble_eq_true rfl,rfl⟩
theorem nm_inj:∀ i,i<6→∀ j,j<6→nmC i=nmC j→i=j:=by decide
theorem ne_of_list {x y:Str}(h:x.cps.toList≠y.cps.toList):(x==y)=false:=by
  refine beq_eq_false_iff_ne.mpr fun z=>h (by rw [z])
theorem mail_long {dd cc:Nat→Nat}(hd:∀ i,i<6→1≤dd i∧dd i≤6):3≤(mailC dd cc).length:=by
  have d0:=hd 0 (by decide)
  unfold mailC wsM
  simp only [mailFrom,List.length_append,List.length_cons,d_len]
  omega
theorem at6 {f:Nat→Nat}{i:Nat}(h:i<6):[f 0,f 1,f 2,f 3,f 4,f 5][i]?=some (f i):=by
  have:[f 0,f 1,f 2,f 3,f 4,f 5]=(List.range 6).map f:=rfl
  rw [this,List.getElem?_map,List.getElem?_range h]
  rfl
theorem nm_head (k:Nat):(nmC k).head?≠some 46:=by
  unfold nmC
  split<;>decide
theorem tv_index {W o:Nat→Nat}{N:Nat}{dd cc pos:Nat→Nat}{tl:Nat}{td:Nat→Nat}(r:ROk W o N dd cc pos){k:Nat}(hk:k<6){w:World}{e t:Nat}:(X_index (TV N dd cc tl td) e (nmS k) t (2*pos k+2)).Ok w:=by
  obtain ⟨p1,p2⟩:=r.pos k hk
  obtain ⟨h1,h2⟩:=tv_name (N:=N) (dd:=dd) (cc:=cc) (tl:=tl) (td:=td) (pos k) p1
  have c6:∀ i,i<6→cc i<6:=fun i hi=>lt6.mp (r.perm.mem_iff.mp (List.mem_of_getElem? (at6 hi)))
  have nd:[cc 0,cc 1,cc 2,cc 3,cc 4,cc 5].Nodup:=r.perm.nodup_iff.mpr (by decide)
  have inj:∀ i,i<6→cc i=k→i=pos k:=fun i hi e=>by
    have e1:=at6 (f:=cc) hi
    have e2:=at6 (f:=cc) p1
    rw [e,← p2] at e1
    exact (List.getElem?_inj (by simpa using hi) nd).mp (e1.trans e2.symm)
  refine ok_index h1 (by show 13≤1000;decide) (by rw [h2,p2];exact beq_self_eq_true _) fun m hm hlt=>?_
  refine ne_of_list ?_
  have hm13:m<13:=hm
  obtain ⟨i,ei⟩:∃ i,i=(m-1) / 2:=⟨_,rfl⟩
  have hi:i<6:=by omega
  rcases (by omega:m=0∨m=2*i+1∨m=2*i+2) with rfl | rfl | rfl
  · intro z
    have z:=congrArg List.length z
    have z1:(txS (N,mailC dd cc)).cps.toList.length=(nmC k).length:=z
    rw [tx_list,List.length_append,List.length_replicate] at z1
    have:=mail_long (cc:=cc) r.d
    have:=nm_len k
    have z2:N+(mailC dd cc).length=(nmC k).length:=z1
    omega
  · obtain ⟨_,e⟩:=tv_dots (N:=N) (dd:=dd) (cc:=cc) (tl:=tl) (td:=td) i hi
    rw [e]
    intro z
    have z1:dC (dd i)=nmC k:=z
    obtain ⟨n,hn⟩:∃ n,dd i=n+1:=⟨dd i-1,by have:=(r.d i hi).1;omega⟩
    exact nm_head k (by rw [← z1,hn];unfold dC;rw [List.replicate_succ];rfl)
  · obtain ⟨_,e⟩:=tv_name (N:=N) (dd:=dd) (cc:=cc) (tl:=tl) (td:=td) i hi
    rw [e]
    intro z
    have:=inj i hi (nm_inj _ (c6 i hi) k hk z)
    omega
theorem tv_get {W o:Nat→Nat}{N:Nat}{dd cc pos:Nat→Nat}{tl:Nat}{td:Nat→Nat}(r:ROk W o N dd cc pos){k:Nat}(hk:k<6):((TV N dd cc tl td).map (·.1))[((2*pos k+1:Nat):Int).toNat]?=some (lS (dC (dd (pos k)))):=by
  obtain ⟨p1,p2⟩:=r.pos k hk
  obtain ⟨h1,h2⟩:=tv_dots (N:=N) (dd:=dd) (cc:=cc) (tl:=tl) (td:=td) (pos k) p1
  rw [Int.toNat_natCast,List.getElem?_map,List.getElem?_eq_getElem h1,Option.map_some,h2]
theorem d_short {W o:Nat→Nat}{N:Nat}{dd cc pos:Nat→Nat}(r:ROk W o N dd cc pos){k:Nat}(hk:k<6):(lS (dC (dd (pos k)))).length≤sizeLine:=by
  have:=(r.d _ (r.pos k hk).1).2
  have:=sizeLine_eq
  rw [lS_len,d_len]
  omega
theorem d_int {W o dd pos D:Nat→Nat}(q:COk W o dd pos D){k:Nat}(hk:k<6):((lS (dC (dd (pos k)))).length:Int)-1=((D k:Nat):Int):=by
  rw [lS_len,d_len]
  exact q.d k hk
noncomputable def prodI (W D f:Nat→Nat):List Iv:=[(((W 0:Nat):Int)*((D 0:Nat):Int),f 0),(((W 1:Nat):Int)*((D 1:Nat):Int),f 1),(((W 2:Nat):Int)*((D 2:Nat):Int),f 2),(((W 3:Nat):Int)*((D 3:Nat):Int),f 3),(((W 4:Nat):Int)*((D 4:Nat):Int),f 4),(((W 5:Nat):Int)*((D 5:Nat):Int),f 5)]
theorem bits_small {n:Nat}(h:n≤30):Nat.ble (Builtin.Int.intBits ((n:Nat):Int)) 64=true:=by
  have:∀ n,n≤30→Nat.ble (Builtin.Int.intBits ((n:Nat):Int)) 64=true:=by decide
  exact this n h
noncomputable def X_dep (Pw:Params)(N:Nat)(dd cc pos D:Nat→Nat)(tl:Nat)(td nt:Nat→Nat)(fr:Nat):Spec:={ n0:=6,k:=0,nt:=7,d:=400,code:=fun J=>.compLoop lwC4 0 (.ref (J 1)) (.ref (J 2)) (cEnv (lwF fr) lwC4 (J 0) [(sTold,J 3)]),pre:=fun J=>[dic [] 0,liN (.ref (J 5)) (.int 0 0),lst [] 0,cellO (.ref (J 4)),lst (strValues (TV N dd cc tl td)) 13,lst (strValues (nmV nt)) 0],res:=fun J Z=>.ok .next,post:=fun J Z=>[dic [⟨hsh Pw sName,.str sName (Z 6),.str (nmS 5) (nt 5)⟩] 1,liN .none (.int 6 0),ro (wI D (fun j=>Z j)) 6,cellO (.ref (J 4)),lst (strValues (TV N dd cc tl td)) 13,lst (strValues (nmV nt)) 0],new:=fun J Z=>[] }
noncomputable def dep_hs (b1 b2:Bool):List Nat:=[2,2,2,2,6,2,2,1,1,0,0,4,4,5,5,5,5,1,5,5,5,5,5,3,3,3,3,2,2,2,2,6,2,2,1,1,0,0,4,4,5,5,5,5,1,5,5,5,5,5,3,3,3,3,2,2,2,2,6,2,2,1,1,0,0,4,4,5,5,5,5,1,5,5,5,5,5,3,3,3,3,2,2,2,2,6,2,2,1,1,0,0,4,4,5,5,5,5,1,5,5,5,5,5,3,3,3,3,2,2,2,2,6,2,2,1,1,0,0,4,4,5,5,5,5,1,5,5,5,5,5,3,3,3,3,2,2,2,2,6,2,2,1,1,0,0,4,4,5,5,5,5,1,5,5,5,5,5,3,3,3,3,2,2,2,2,6,2,2,8]
noncomputable def dep_cs (Pw:Params)(N:Nat)(dd cc pos D:Nat→Nat)(tl:Nat)(td nt:Nat→Nat)(fr:Nat)(b1 b2:Bool):List Ev:=[evX (fun J Z=>X_index (TV N dd cc tl td) 13 (nmS 0) (nt 0) (2*pos 0+2)) [4] 3 6 1,evX (fun J Z=>X_isub2 ((2*pos 0+2:Nat):Int) (Z 1) 1 (Z 2) ((2*pos 0+1:Nat):Int)) [] 1 6 3,evX (fun J Z=>X_getT (TV N dd cc tl td) 13 ((2*pos 0+1:Nat):Int) (Z 3) (lS (dC (dd (pos 0))))) [4] 1 6 4,evX (fun J Z=>X_lenS (lS (dC (dd (pos 0)))) (Z 4)) [] 1 6 5,evX (fun J Z=>X_isub2 ((lS (dC (dd (pos 0)))).length:Int) (Z 5) 1 (Z 6) ((D 0:Nat):Int)) [] 1 6 7,evX (fun J Z=>X_index (TV N dd cc tl td) 13 (nmS 1) (nt 1) (2*pos 1+2)) [4] 6 6 9,evX (fun J Z=>X_isub2 ((2*pos 1+2:Nat):Int) (Z 9) 1 (Z 10) ((2*pos 1+1:Nat):Int)) [] 1 6 11,evX (fun J Z=>X_getT (TV N dd cc tl td) 13 ((2*pos 1+1:Nat):Int) (Z 11) (lS (dC (dd (pos 1))))) [4] 1 6 12,evX (fun J Z=>X_lenS (lS (dC (dd (pos 1)))) (Z 12)) [] 1 6 13,evX (fun J Z=>X_isub2 ((lS (dC (dd (pos 1)))).length:Int) (Z 13) 1 (Z 14) ((D 1:Nat):Int)) [] 1 6 15,evX (fun J Z=>X_index (TV N dd cc tl td) 13 (nmS 2) (nt 2) (2*pos 2+2)) [4] 6 6 17,evX (fun J Z=>X_isub2 ((2*pos 2+2:Nat):Int) (Z 17) 1 (Z 18) ((2*pos 2+1:Nat):Int)) [] 1 6 19,evX (fun J Z=>X_getT (TV N dd cc tl td) 13 ((2*pos 2+1:Nat):Int) (Z 19) (lS (dC (dd (pos 2))))) [4] 1 6 20,evX (fun J Z=>X_lenS (lS (dC (dd (pos 2)))) (Z 20)) [] 1 6 21,evX (fun J Z=>X_isub2 ((lS (dC (dd (pos 2)))).length:Int) (Z 21) 1 (Z 22) ((D 2:Nat):Int)) [] 1 6 23,evX (fun J Z=>X_index (TV N dd cc tl td) 13 (nmS 3) (nt 3) (2*pos 3+2)) [4] 6 6 25,evX (fun J Z=>X_isub2 ((2*pos 3+2:Nat):Int) (Z 25) 1 (Z 26) ((2*pos 3+1:Nat):Int)) [] 1 6 27,evX (fun J Z=>X_getT (TV N dd cc tl td) 13 ((2*pos 3+1:Nat):Int) (Z 27) (lS (dC (dd (pos 3))))) [4] 1 6 28,evX (fun J Z=>X_lenS (lS (dC (dd (pos 3)))) (Z 28)) [] 1 6 29,evX (fun J Z=>X_isub2 ((lS (dC (dd (pos 3)))).length:Int) (Z 29) 1 (Z 30) ((D 3:Nat):Int)) [] 1 6 31,evX (fun J Z=>X_index (TV N dd cc tl td) 13 (nmS 4) (nt 4) (2*pos 4+2)) [4] 6 6 33,evX (fun J Z=>X_isub2 ((2*pos 4+2:Nat):Int) (Z 33) 1 (Z 34) ((2*pos 4+1:Nat):Int)) [] 1 6 35,evX (fun J Z=>X_getT (TV N dd cc tl td) 13 ((2*pos 4+1:Nat):Int) (Z 35) (lS (dC (dd (pos 4))))) [4] 1 6 36,evX (fun J Z=>X_lenS (lS (dC (dd (pos 4)))) (Z 36)) [] 1 6 37,evX (fun J Z=>X_isub2 ((lS (dC (dd (pos 4)))).length:Int) (Z 37) 1 (Z 38) ((D 4:Nat):Int)) [] 1 6 39,evX (fun J Z=>X_index (TV N dd cc tl td) 13 (nmS 5) (nt 5) (2*pos 5+2)) [4] 6 6 41,evX (fun J Z=>X_isub2 ((2*pos 5+2:Nat):Int) (Z 41) 1 (Z 42) ((2*pos 5+1:Nat):Int)) [] 1 6 43,evX (fun J Z=>X_getT (TV N dd cc tl td) 13 ((2*pos 5+1:Nat):Int) (Z 43) (lS (dC (dd (pos 5))))) [4] 1 6 44,evX (fun J Z=>X_lenS (lS (dC (dd (pos 5)))) (Z 44)) [] 1 6 45,evX (fun J Z=>X_isub2 ((lS (dC (dd (pos 5)))).length:Int) (Z 45) 1 (Z 46) ((D 5:Nat):Int)) [] 1 6 47]
theorem run_dep (N:Nat)(dd cc pos D:Nat→Nat)(tl:Nat)(td nt:Nat→Nat)(fr:Nat)(Pw:Params):∀ (b1 b2:Bool) (J Z:Nu),RD (X_dep Pw N dd cc pos D tl td nt fr) Pw b1 b2 412 (dep_hs b1 b2) (dep_cs Pw N dd cc pos D tl td nt fr b1 b2) [] [7,15,23,31,39,47,0] J Z
  | true,b2,J,Z=>by kernel_rfl
  | false,b2,J,Z=>by kernel_rfl
theorem ok_dep (w:World){N:Nat}{dd cc pos D:Nat→Nat}{tl:Nat}{td nt:Nat→Nat}{fr:Nat}{W o:Nat→Nat}(r:ROk W o N dd cc pos)(q:COk W o dd pos D):(X_dep w.params N dd cc pos D tl td nt fr).Ok w :=
  ok_of_run (hs:=dep_hs (row1 w) (row2 w)) (cs:=dep_cs w.params N dd cc pos D tl td nt fr (row1 w) (row2 w)) (ns:=[]) (ts:=[7,15,23,31,39,47,0]) ((show ∀ b1 b2,ValidAll prg w (gl w.params) (dep_cs w.params N dd cc pos D tl td nt fr b1 b2) from fun b1 b2=>vc (fun J Z=>tv_index r (by decide)) rfl (vc (fun J Z=>ok_isub2 (by omega)) rfl (vc (fun J Z=>ok_getT (by omega) (by have:=(r.pos 0 (by decide)).1;omega) (tv_get r (by decide))) rfl (vc (fun J Z=>ok_lenS (d_short r (by decide))) rfl (vc (fun J Z=>ok_isub2 (d_int q (by decide))) rfl (vc (fun J Z=>tv_index r (by decide)) rfl (vc (fun J Z=>ok_isub2 (by omega)) rfl (vc (fun J Z=>ok_getT (by omega) (by have:=(r.pos 1 (by decide)).1;omega) (tv_get r (by decide))) rfl (vc (fun J Z=>ok_lenS (d_short r (by decide))) rfl (vc (fun J Z=>ok_isub2 (d_int q (by decide))) rfl (vc (fun J Z=>tv_index r (by decide)) rfl (vc (fun J Z=>ok_isub2 (by omega)) rfl (vc (fun J Z=>ok_getT (by omega) (by have:=(r.pos 2 (by decide)).1;omega) (tv_get r (by decide))) rfl (vc (fun J Z=>ok_lenS (d_short r (by decide))) rfl (vc (fun J Z=>ok_isub2 (d_int q (by decide))) rfl (vc (fun J Z=>tv_index r (by decide)) rfl (vc (fun J Z=>ok_isub2 (by omega)) rfl (vc (fun J Z=>ok_getT (by omega) (by have:=(r.pos 3 (by decide)).1;omega) (tv_get r (by decide))) rfl (vc (fun J Z=>ok_lenS (d_short r (by decide))) rfl (vc (fun J Z=>ok_isub2 (d_int q (by decide))) rfl (vc (fun J Z=>tv_index r (by decide)) rfl (vc (fun J Z=>ok_isub2 (by omega)) rfl (vc (fun J Z=>ok_getT (by omega) (by have:=(r.pos 4 (by decide)).1;omega) (tv_get r (by decide))) rfl (vc (fun J Z=>ok_lenS (d_short r (by decide))) rfl (vc (fun J Z=>ok_isub2 (d_int q (by decide))) rfl (vc (fun J Z=>tv_index r (by decide)) rfl (vc (fun J Z=>ok_isub2 (by omega)) rfl (vc (fun J Z=>ok_getT (by omega) (by have:=(r.pos 5 (by decide)).1;omega) (tv_get r (by decide))) rfl (vc (fun J Z=>ok_lenS (d_short r (by decide))) rfl (vc (fun J Z=>ok_isub2 (d_int q (by decide))) rfl (va_nil))))))))))))))))))))))))))))))) _ _) rfl rfl (by decide) (show ∀ j∈([]:List Nat),6≤j by decide) (run_dep N dd cc pos D tl td nt fr w.params (row1 w) (row2 w))
noncomputable def X_fal (Pw:Params)(W o ot:Nat→Nat)(oe:Nat)(wt:Nat→Nat)(we fr:Nat):Spec:={ n0:=6,k:=0,nt:=7,d:=400,code:=fun J=>.compLoop lwC5 0 (.ref (J 1)) (.ref (J 2)) (cEnv (lwF fr) lwC5 (J 0) [(sWeights,J 3)]),pre:=fun J=>[dic [] 0,liN (.ref (J 5)) (.int 0 0),lst [] 0,cellO (.ref (J 4)),ro (wI W wt) we,ro (oI o ot) oe],res:=fun J Z=>.ok .next,post:=fun J Z=>[dic [⟨hsh Pw sKk,.str sKk (Z 6),.int (o 5:Nat) (ot 5)⟩] 1,liN .none (.int 6 0),ro (wI (fun j=>W (o j)) (fun j=>Z j)) 6,cellO (.ref (J 4)),ro (wI W wt) we,ro (oI o ot) oe],new:=fun J Z=>[] }
noncomputable def fal_hs (b1 b2:Bool):List Nat:=[2,2,2,2,6,2,2,1,1,4,1,5,5,5,5,3,3,3,3,2,2,2,2,6,2,2,1,1,4,1,5,5,5,5,3,3,3,3,2,2,2,2,6,2,2,1,1,4,1,5,5,5,5,3,3,3,3,2,2,2,2,6,2,2,1,1,4,1,5,5,5,5,3,3,3,3,2,2,2,2,6,2,2,1,1,4,1,5,5,5,5,3,3,3,3,2,2,2,2,6,2,2,1,1,4,1,5,5,5,5,3,3,3,3,2,2,2,2,6,2,2,8]
noncomputable def fal_cs (Pw:Params)(W o ot:Nat→Nat)(oe:Nat)(wt:Nat→Nat)(we fr:Nat)(b1 b2:Bool):List Ev:=[evX (fun J Z=>X_getN (wI W wt) we ((o 0:Nat):Int) (ot 0) ((W (o 0):Nat):Int)) [4] 3 6 1,evX (fun J Z=>X_getN (wI W wt) we ((o 1:Nat):Int) (ot 1) ((W (o 1):Nat):Int)) [4] 6 6 3,evX (fun J Z=>X_getN (wI W wt) we ((o 2:Nat):Int) (ot 2) ((W (o 2):Nat):Int)) [4] 6 6 5,evX (fun J Z=>X_getN (wI W wt) we ((o 3:Nat):Int) (ot 3) ((W (o 3):Nat):Int)) [4] 6 6 7,evX (fun J Z=>X_getN (wI W wt) we ((o 4:Nat):Int) (ot 4) ((W (o 4):Nat):Int)) [4] 6 6 9,evX (fun J Z=>X_getN (wI W wt) we ((o 5:Nat):Int) (ot 5) ((W (o 5):Nat):Int)) [4] 6 6 11]
theorem run_fal (W o ot:Nat→Nat)(oe:Nat)(wt:Nat→Nat)(we fr:Nat)(Pw:Params):∀ (b1 b2:Bool) (J Z:Nu),RD (X_fal Pw W o ot oe wt we fr) Pw b1 b2 244 (fal_hs b1 b2) (fal_cs Pw W o ot oe wt we fr b1 b2) [] [1,3,5,7,9,11,0] J Z
  | true,b2,J,Z=>by kernel_rfl
  | false,b2,J,Z=>by kernel_rfl
theorem ok_fal (w:World){W o ot:Nat→Nat}{oe:Nat}{wt:Nat→Nat}{we fr:Nat}(h:OOk W o):(X_fal w.params W o ot oe wt we fr).Ok w :=
  ok_of_run (hs:=fal_hs (row1 w) (row2 w)) (cs:=fal_cs w.params W o ot oe wt we fr (row1 w) (row2 w)) (ns:=[]) (ts:=[1,3,5,7,9,11,0]) (vc (fun J Z=>ok_getN (by omega) (by have:=h.o 0 (by decide);omega) (wI_get (h.o 0 (by decide)))) rfl (vc (fun J Z=>ok_getN (by omega) (by have:=h.o 1 (by decide);omega) (wI_get (h.o 1 (by decide)))) rfl (vc (fun J Z=>ok_getN (by omega) (by have:=h.o 2 (by decide);omega) (wI_get (h.o 2 (by decide)))) rfl (vc (fun J Z=>ok_getN (by omega) (by have:=h.o 3 (by decide);omega) (wI_get (h.o 3 (by decide)))) rfl (vc (fun J Z=>ok_getN (by omega) (by have:=h.o 4 (by decide);omega) (wI_get (h.o 4 (by decide)))) rfl (vc (fun J Z=>ok_getN (by omega) (by have:=h.o 5 (by decide);omega) (wI_get (h.o 5 (by decide)))) rfl (va_nil))))))) rfl rfl (by decide) (show ∀ j∈([]:List Nat),6≤j by decide) (run_fal W o ot oe wt we fr w.params (row1 w) (row2 w))
noncomputable def X_inr (Pw:Params)(r:Nat→Int)(rt:Nat→Nat)(re:Nat)(W o ft:Nat→Nat)(fr:Nat):Spec:={ n0:=7,k:=0,nt:=8,d:=440,code:=fun J=>.compLoop lwC7 0 (.ref (J 1)) (.ref (J 2)) (cEnv (cEnv (lwF fr) lwC6 0 []) lwC7 (J 0) [(sRow,J 3),(sFalling,J 5)]),pre:=fun J=>[dic [] 0,riO (.int 0 0) (.int 6 0) (.int 1 0),lst [] 0,cellO (.ref (J 4)),ro (rI r rt) re,cellO (.ref (J 6)),ro (wI (fun j=>W (o j)) ft) 6],res:=fun J Z=>.ok .next,post:=fun J Z=>[dic [⟨hsh Pw sJ,.str sJ (Z 6),.int 5 (Z 7)⟩] 1,riO (.int 6 0) (.int 0 0) (.int 1 0),ro (mulI r W o (fun j=>Z j)) 6,cellO (.ref (J 4)),ro (rI r rt) re,cellO (.ref (J 6)),ro (wI (fun j=>W (o j)) ft) 6],new:=fun J Z=>[] }
noncomputable def inr_hs (b1 b2:Bool):List Nat:=[2,2,2,2,2,2,2,2,2,1,1,4,1,5,5,5,5,5,6,1,7,7,7,7,7,3,3,3,3,2,2,2,2,2,2,2,2,2,1,1,4,1,5,5,5,5,5,6,1,7,7,7,7,7,3,3,3,3,2,2,2,2,2,2,2,2,2,1,1,4,1,5,5,5,5,5,6,1,7,7,7,7,7,3,3,3,3,2,2,2,2,2,2,2,2,2,1,1,4,1,5,5,5,5,5,6,1,7,7,7,7,7,3,3,3,3,2,2,2,2,2,2,2,2,2,1,1,4,1,5,5,5,5,5,6,1,7,7,7,7,7,3,3,3,3,2,2,2,2,2,2,2,2,2,1,1,4,1,5,5,5,5,5,6,1,7,7,7,7,7,3,3,3,3,2,2,2,2,2,9]
noncomputable def inr_cs (Pw:Params)(r:Nat→Int)(rt:Nat→Nat)(re:Nat)(W o ft:Nat→Nat)(fr:Nat)(b1 b2:Bool):List Ev:=[evX (fun J Z=>X_imul (r 0) (rt 0) ((W (o 0):Nat):Int) (ft 0) (r 0*((W (o 0):Nat):Int))) [] 7 7 2,evX (fun J Z=>X_imul (r 1) (rt 1) ((W (o 1):Nat):Int) (ft 1) (r 1*((W (o 1):Nat):Int))) [] 10 7 5,evX (fun J Z=>X_imul (r 2) (rt 2) ((W (o 2):Nat):Int) (ft 2) (r 2*((W (o 2):Nat):Int))) [] 10 7 8,evX (fun J Z=>X_imul (r 3) (rt 3) ((W (o 3):Nat):Int) (ft 3) (r 3*((W (o 3):Nat):Int))) [] 10 7 11,evX (fun J Z=>X_imul (r 4) (rt 4) ((W (o 4):Nat):Int) (ft 4) (r 4*((W (o 4):Nat):Int))) [] 10 7 14,evX (fun J Z=>X_imul (r 5) (rt 5) ((W (o 5):Nat):Int) (ft 5) (r 5*((W (o 5):Nat):Int))) [] 10 7 17]
theorem run_inr (r:Nat→Int)(rt:Nat→Nat)(re:Nat)(W o ft:Nat→Nat)(fr:Nat)(Pw:Params):∀ (b1 b2:Bool) (J Z:Nu),RD (X_inr Pw r rt re W o ft fr) Pw b1 b2 368 (inr_hs b1 b2) (inr_cs Pw r rt re W o ft fr b1 b2) [] [2,5,8,11,14,17,1,15] J Z
  | true,b2,J,Z=>by kernel_rfl
  | false,b2,J,Z=>by kernel_rfl
theorem ok_inr (w:World){r:Nat→Int}{rt:Nat→Nat}{re:Nat}{W o ft:Nat→Nat}{fr:Nat}(hr:∀ j,j<6→Nat.ble (Builtin.Int.intBits (r j)) 64=true):(X_inr w.params r rt re W o ft fr).Ok w :=
  ok_of_run (hs:=inr_hs (row1 w) (row2 w)) (cs:=inr_cs w.params r rt re W o ft fr (row1 w) (row2 w)) (ns:=[]) (ts:=[2,5,8,11,14,17,1,15]) (vc (fun J Z=>ok_imul (hr 0 (by decide)) rfl) rfl (vc (fun J Z=>ok_imul (hr 1 (by decide)) rfl) rfl (vc (fun J Z=>ok_imul (hr 2 (by decide)) rfl) rfl (vc (fun J Z=>ok_imul (hr 3 (by decide)) rfl) rfl (vc (fun J Z=>ok_imul (hr 4 (by decide)) rfl) rfl (vc (fun J Z=>ok_imul (hr 5 (by decide)) rfl) rfl (va_nil))))))) rfl rfl (by decide) (show ∀ j∈([]:List Nat),7≤j by decide) (run_inr r rt re W o ft fr w.params (row1 w) (row2 w))
noncomputable def X_cost (Pw:Params)(W wt:Nat→Nat)(we:Nat)(D dt:Nat→Nat)(fr:Nat):Spec:={ n0:=7,k:=0,nt:=8,d:=400,code:=fun J=>.compLoop lwC8 0 (.ref (J 1)) (.ref (J 2)) (cEnv (lwF fr) lwC8 (J 0) [(sWeights,J 3),(sDepths,J 5)]),pre:=fun J=>[dic [] 0,riO (.int 0 0) (.int 6 0) (.int 1 0),lst [] 0,cellO (.ref (J 4)),ro (wI W wt) we,cellO (.ref (J 6)),ro (wI D dt) 6],res:=fun J Z=>.ok .next,post:=fun J Z=>[dic [⟨hsh Pw sKk,.str sKk (Z 6),.int 5 (Z 7)⟩] 1,riO (.int 6 0) (.int 0 0) (.int 1 0),ro (prodI W D (fun j=>Z j)) 6,cellO (.ref (J 4)),ro (wI W wt) we,cellO (.ref (J 6)),ro (wI D dt) 6],new:=fun J Z=>[] }
noncomputable def cost_hs (b1 b2:Bool):List Nat:=[2,2,2,2,2,2,2,2,2,1,1,4,1,5,5,5,5,5,6,1,7,7,7,7,7,3,3,3,3,2,2,2,2,2,2,2,2,2,1,1,4,1,5,5,5,5,5,6,1,7,7,7,7,7,3,3,3,3,2,2,2,2,2,2,2,2,2,1,1,4,1,5,5,5,5,5,6,1,7,7,7,7,7,3,3,3,3,2,2,2,2,2,2,2,2,2,1,1,4,1,5,5,5,5,5,6,1,7,7,7,7,7,3,3,3,3,2,2,2,2,2,2,2,2,2,1,1,4,1,5,5,5,5,5,6,1,7,7,7,7,7,3,3,3,3,2,2,2,2,2,2,2,2,2,1,1,4,1,5,5,5,5,5,6,1,7,7,7,7,7,3,3,3,3,2,2,2,2,2,9]
noncomputable def cost_cs (Pw:Params)(W wt:Nat→Nat)(we:Nat)(D dt:Nat→Nat)(fr:Nat)(b1 b2:Bool):List Ev:=[evX (fun J Z=>X_imul ((W 0:Nat):Int) (wt 0) ((D 0:Nat):Int) (dt 0) (((W 0:Nat):Int)*((D 0:Nat):Int))) [] 7 7 2,evX (fun J Z=>X_imul ((W 1:Nat):Int) (wt 1) ((D 1:Nat):Int) (dt 1) (((W 1:Nat):Int)*((D 1:Nat):Int))) [] 10 7 5,evX (fun J Z=>X_imul ((W 2:Nat):Int) (wt 2) ((D 2:Nat):Int) (dt 2) (((W 2:Nat):Int)*((D 2:Nat):Int))) [] 10 7 8,evX (fun J Z=>X_imul ((W 3:Nat):Int) (wt 3) ((D 3:Nat):Int) (dt 3) (((W 3:Nat):Int)*((D 3:Nat):Int))) [] 10 7 11,evX (fun J Z=>X_imul ((W 4:Nat):Int) (wt 4) ((D 4:Nat):Int) (dt 4) (((W 4:Nat):Int)*((D 4:Nat):Int))) [] 10 7 14,evX (fun J Z=>X_imul ((W 5:Nat):Int) (wt 5) ((D 5:Nat):Int) (dt 5) (((W 5:Nat):Int)*((D 5:Nat):Int))) [] 10 7 17]
theorem run_cost (W wt:Nat→Nat)(we:Nat)(D dt:Nat→Nat)(fr:Nat)(Pw:Params):∀ (b1 b2:Bool) (J Z:Nu),RD (X_cost Pw W wt we D dt fr) Pw b1 b2 368 (cost_hs b1 b2) (cost_cs Pw W wt we D dt fr b1 b2) [] [2,5,8,11,14,17,1,15] J Z
  | true,b2,J,Z=>by kernel_rfl
  | false,b2,J,Z=>by kernel_rfl
theorem ok_cost (w:World){W wt:Nat→Nat}{we:Nat}{D dt:Nat→Nat}{fr:Nat}{o:Nat→Nat}(h:OOk W o):(X_cost w.params W wt we D dt fr).Ok w :=
  ok_of_run (hs:=cost_hs (row1 w) (row2 w)) (cs:=cost_cs w.params W wt we D dt fr (row1 w) (row2 w)) (ns:=[]) (ts:=[2,5,8,11,14,17,1,15]) (vc (fun J Z=>ok_imul (bits_small (h.w 0 (by decide)).2) rfl) rfl (vc (fun J Z=>ok_imul (bits_small (h.w 1 (by decide)).2) rfl) rfl (vc (fun J Z=>ok_imul (bits_small (h.w 2 (by decide)).2) rfl) rfl (vc (fun J Z=>ok_imul (bits_small (h.w 3 (by decide)).2) rfl) rfl (vc (fun J Z=>ok_imul (bits_small (h.w 4 (by decide)).2) rfl) rfl (vc (fun J Z=>ok_imul (bits_small (h.w 5 (by decide)).2) rfl) rfl (va_nil))))))) rfl rfl (by decide) (show ∀ j∈([]:List Nat),7≤j by decide) (run_cost W wt we D dt fr w.params (row1 w) (row2 w))
noncomputable def X_out (Pw:Params)(W o ft:Nat→Nat)(rtt:Nat→Nat→Nat)(fr:Nat):Spec:={ n0:=12,k:=0,nt:=5,d:=400,code:=fun J=>.compLoop lwC6 0 (.ref (J 1)) (.ref (J 2)) (cEnv (lwF fr) lwC6 (J 0) [(sRow,J 3),(sFalling,J 4)]),pre:=fun J=>[dic [] 0,liN (.ref (J 6)) (.int 0 0),lst [] 0,cell0,cellO (.ref (J 5)),ro (wI (fun j=>W (o j)) ft) 6,lst [.ref (J 7),.ref (J 8),.ref (J 9),.ref (J 10),.ref (J 11)] 5,ro (rI (r5 0) (rtt 0)) 2,ro (rI (r5 1) (rtt 1)) 2,ro (rI (r5 2) (rtt 2)) 2,ro (rI (r5 3) (rtt 3)) 2,ro (rI (r5 4) (rtt 4)) 2],res:=fun J Z=>.ok .next,post:=fun J Z=>[dic [] 0,liN .none (.int 5 0),ro (costs W o (fun j=>Z j)) 5,cellO (.ref (J 11)),cellO (.ref (J 5)),ro (wI (fun j=>W (o j)) ft) 6,lst [.ref (J 7),.ref (J 8),.ref (J 9),.ref (J 10),.ref (J 11)] 5,ro (rI (r5 0) (rtt 0)) 2,ro (rI (r5 1) (rtt 1)) 2,ro (rI (r5 2) (rtt 2)) 2,ro (rI (r5 3) (rtt 3)) 2,ro (rI (r5 4) (rtt 4)) 2],new:=fun J Z=>[] }
noncomputable def out_hs (b1 b2:Bool):List Nat:=(match b1,b2 with | true,true=>[2,2,2,2,7,2,2,4,4,0,0,0,0,13,13,13,13,13,13,13,13,13,13,14,16,16,16,3,3,3,3,2,2,2,2,7,2,2,4,4,0,0,0,0,17,17,17,17,17,17,17,17,17,17,18,20,20,20,3,3,3,3,2,2,2,2,7,2,2,4,4,0,0,0,0,21,21,21,21,21,21,21,21,21,21,22,24,24,24,3,3,3,3,2,2,2,2,7,2,2,4,4,0,0,0,0,25,25,25,25,25,25,25,25,25,25,26,28,28,28,3,3,3,3,2,2,2,2,7,2,2,4,4,0,0,0,0,29,29,29,29,29,29,29,29,29,29,30,32,32,32,3,3,3,3,2,2,2,2,7,2,2,34] | true,false=>[2,2,2,2,7,2,2,4,4,0,0,0,0,13,13,13,13,13,13,13,13,13,13,14,14,14,14,14,16,16,16,3,3,3,3,2,2,2,2,7,2,2,4,4,0,0,0,0,17,17,17,17,17,17,17,17,17,17,18,18,18,18,18,20,20,20,3,3,3,3,2,2,2,2,7,2,2,4,4,0,0,0,0,21,21,21,21,21,21,21,21,21,21,22,22,22,22,22,24,24,24,3,3,3,3,2,2,2,2,7,2,2,4,4,0,0,0,0,25,25,25,25,25,25,25,25,25,25,26,26,26,26,26,28,28,28,3,3,3,3,2,2,2,2,7,2,2,4,4,0,0,0,0,29,29,29,29,29,29,29,29,29,29,30,30,30,30,30,32,32,32,3,3,3,3,2,2,2,2,7,2,2,34] | false,true=>[2,2,2,2,7,2,2,4,4,0,0,0,0,13,13,13,13,13,13,13,13,13,13,14,16,16,16,3,3,3,3,2,2,2,2,7,2,2,4,4,0,0,0,0,17,17,17,17,17,17,17,17,17,17,18,20,20,20,3,3,3,3,2,2,2,2,7,2,2,4,4,0,0,0,0,21,21,21,21,21,21,21,21,21,21,22,24,24,24,3,3,3,3,2,2,2,2,7,2,2,4,4,0,0,0,0,25,25,25,25,25,25,25,25,25,25,26,28,28,28,3,3,3,3,2,2,2,2,7,2,2,4,4,0,0,0,0,29,29,29,29,29,29,29,29,29,29,30,32,32,32,3,3,3,3,2,2,2,2,7,2,2,34] | false,false=>[2,2,2,2,7,2,2,4,4,0,0,0,0,13,13,13,13,13,13,13,13,13,13,14,14,14,14,14,16,16,16,3,3,3,3,2,2,2,2,7,2,2,4,4,0,0,0,0,17,17,17,17,17,17,17,17,17,17,18,18,18,18,18,20,20,20,3,3,3,3,2,2,2,2,7,2,2,4,4,0,0,0,0,21,21,21,21,21,21,21,21,21,21,22,22,22,22,22,24,24,24,3,3,3,3,2,2,2,2,7,2,2,4,4,0,0,0,0,25,25,25,25,25,25,25,25,25,25,26,26,26,26,26,28,28,28,3,3,3,3,2,2,2,2,7,2,2,4,4,0,0,0,0,29,29,29,29,29,29,29,29,29,29,30,30,30,30,30,32,32,32,3,3,3,3,2,2,2,2,7,2,2,34])
noncomputable def out_cs (Pw:Params)(W o ft:Nat→Nat)(rtt:Nat→Nat→Nat)(fr:Nat)(b1 b2:Bool):List Ev:=(match b1,b2 with | true,true=>[evX (fun J Z=>X_inr Pw (r5 0) (rtt 0) 2 W o ft fr) [15,13,14,3,7,4,5] 11 16 3,evX (fun J Z=>X_sumR (mulI (r5 0) W o (pick [(Z 3),(Z 4),(Z 5),(Z 6),(Z 7),(Z 8)] 0)) 6 (rowCost (r5 0) W o)) [14] 1 16 11,evX (fun J Z=>X_inr Pw (r5 1) (rtt 1) 2 W o ft fr) [19,17,18,3,8,4,5] 14 20 15,evX (fun J Z=>X_sumR (mulI (r5 1) W o (pick [(Z 15),(Z 16),(Z 17),(Z 18),(Z 19),(Z 20)] 0)) 6 (rowCost (r5 1) W o)) [18] 1 20 23,evX (fun J Z=>X_inr Pw (r5 2) (rtt 2) 2 W o ft fr) [23,21,22,3,9,4,5] 14 24 27,evX (fun J Z=>X_sumR (mulI (r5 2) W o (pick [(Z 27),(Z 28),(Z 29),(Z 30),(Z 31),(Z 32)] 0)) 6 (rowCost (r5 2) W o)) [22] 1 24 35,evX (fun J Z=>X_inr Pw (r5 3) (rtt 3) 2 W o ft fr) [27,25,26,3,10,4,5] 14 28 39,evX (fun J Z=>X_sumR (mulI (r5 3) W o (pick [(Z 39),(Z 40),(Z 41),(Z 42),(Z 43),(Z 44)] 0)) 6 (rowCost (r5 3) W o)) [26] 1 28 47,evX (fun J Z=>X_inr Pw (r5 4) (rtt 4) 2 W o ft fr) [31,29,30,3,11,4,5] 14 32 51,evX (fun J Z=>X_sumR (mulI (r5 4) W o (pick [(Z 51),(Z 52),(Z 53),(Z 54),(Z 55),(Z 56)] 0)) 6 (rowCost (r5 4) W o)) [30] 1 32 59] | true,false=>[evX (fun J Z=>X_inr Pw (r5 0) (rtt 0) 2 W o ft fr) [15,13,14,3,7,4,5] 13 16 3,evX (fun J Z=>X_sumR (mulI (r5 0) W o (pick [(Z 3),(Z 4),(Z 5),(Z 6),(Z 7),(Z 8)] 0)) 6 (rowCost (r5 0) W o)) [14] 1 16 11,evX (fun J Z=>X_inr Pw (r5 1) (rtt 1) 2 W o ft fr) [19,17,18,3,8,4,5] 16 20 15,evX (fun J Z=>X_sumR (mulI (r5 1) W o (pick [(Z 15),(Z 16),(Z 17),(Z 18),(Z 19),(Z 20)] 0)) 6 (rowCost (r5 1) W o)) [18] 1 20 23,evX (fun J Z=>X_inr Pw (r5 2) (rtt 2) 2 W o ft fr) [23,21,22,3,9,4,5] 16 24 27,evX (fun J Z=>X_sumR (mulI (r5 2) W o (pick [(Z 27),(Z 28),(Z 29),(Z 30),(Z 31),(Z 32)] 0)) 6 (rowCost (r5 2) W o)) [22] 1 24 35,evX (fun J Z=>X_inr Pw (r5 3) (rtt 3) 2 W o ft fr) [27,25,26,3,10,4,5] 16 28 39,evX (fun J Z=>X_sumR (mulI (r5 3) W o (pick [(Z 39),(Z 40),(Z 41),(Z 42),(Z 43),(Z 44)] 0)) 6 (rowCost (r5 3) W o)) [26] 1 28 47,evX (fun J Z=>X_inr Pw (r5 4) (rtt 4) 2 W o ft fr) [31,29,30,3,11,4,5] 16 32 51,evX (fun J Z=>X_sumR (mulI (r5 4) W o (pick [(Z 51),(Z 52),(Z 53),(Z 54),(Z 55),(Z 56)] 0)) 6 (rowCost (r5 4) W o)) [30] 1 32 59] | false,true=>[evX (fun J Z=>X_inr Pw (r5 0) (rtt 0) 2 W o ft fr) [15,13,14,3,7,4,5] 11 16 3,evX (fun J Z=>X_sumR (mulI (r5 0) W o (pick [(Z 3),(Z 4),(Z 5),(Z 6),(Z 7),(Z 8)] 0)) 6 (rowCost (r5 0) W o)) [14] 1 16 11,evX (fun J Z=>X_inr Pw (r5 1) (rtt 1) 2 W o ft fr) [19,17,18,3,8,4,5] 14 20 15,evX (fun J Z=>X_sumR (mulI (r5 1) W o (pick [(Z 15),(Z 16),(Z 17),(Z 18),(Z 19),(Z 20)] 0)) 6 (rowCost (r5 1) W o)) [18] 1 20 23,evX (fun J Z=>X_inr Pw (r5 2) (rtt 2) 2 W o ft fr) [23,21,22,3,9,4,5] 14 24 27,evX (fun J Z=>X_sumR (mulI (r5 2) W o (pick [(Z 27),(Z 28),(Z 29),(Z 30),(Z 31),(Z 32)] 0)) 6 (rowCost (r5 2) W o)) [22] 1 24 35,evX (fun J Z=>X_inr Pw (r5 3) (rtt 3) 2 W o ft fr) [27,25,26,3,10,4,5] 14 28 39,evX (fun J Z=>X_sumR (mulI (r5 3) W o (pick [(Z 39),(Z 40),(Z 41),(Z 42),(Z 43),(Z 44)] 0)) 6 (rowCost (r5 3) W o)) [26] 1 28 47,evX (fun J Z=>X_inr Pw (r5 4) (rtt 4) 2 W o ft fr) [31,29,30,3,11,4,5] 14 32 51,evX (fun J Z=>X_sumR (mulI (r5 4) W o (pick [(Z 51),(Z 52),(Z 53),(Z 54),(Z 55),(Z 56)] 0)) 6 (rowCost (r5 4) W o)) [30] 1 32 59] | false,false=>[evX (fun J Z=>X_inr Pw (r5 0) (rtt 0) 2 W o ft fr) [15,13,14,3,7,4,5] 13 16 3,evX (fun J Z=>X_sumR (mulI (r5 0) W o (pick [(Z 3),(Z 4),(Z 5),(Z 6),(Z 7),(Z 8)] 0)) 6 (rowCost (r5 0) W o)) [14] 1 16 11,evX (fun J Z=>X_inr Pw (r5 1) (rtt 1) 2 W o ft fr) [19,17,18,3,8,4,5] 16 20 15,evX (fun J Z=>X_sumR (mulI (r5 1) W o (pick [(Z 15),(Z 16),(Z 17),(Z 18),(Z 19),(Z 20)] 0)) 6 (rowCost (r5 1) W o)) [18] 1 20 23,evX (fun J Z=>X_inr Pw (r5 2) (rtt 2) 2 W o ft fr) [23,21,22,3,9,4,5] 16 24 27,evX (fun J Z=>X_sumR (mulI (r5 2) W o (pick [(Z 27),(Z 28),(Z 29),(Z 30),(Z 31),(Z 32)] 0)) 6 (rowCost (r5 2) W o)) [22] 1 24 35,evX (fun J Z=>X_inr Pw (r5 3) (rtt 3) 2 W o ft fr) [27,25,26,3,10,4,5] 16 28 39,evX (fun J Z=>X_sumR (mulI (r5 3) W o (pick [(Z 39),(Z 40),(Z 41),(Z 42),(Z 43),(Z 44)] 0)) 6 (rowCost (r5 3) W o)) [26] 1 28 47,evX (fun J Z=>X_inr Pw (r5 4) (rtt 4) 2 W o ft fr) [31,29,30,3,11,4,5] 16 32 51,evX (fun J Z=>X_sumR (mulI (r5 4) W o (pick [(Z 51),(Z 52),(Z 53),(Z 54),(Z 55),(Z 56)] 0)) 6 (rowCost (r5 4) W o)) [30] 1 32 59])
theorem run_out (W o ft:Nat→Nat)(rtt:Nat→Nat→Nat)(fr:Nat)(Pw:Params):∀ (b1 b2:Bool) (J Z:Nu),RD (X_out Pw W o ft rtt fr) Pw b1 b2 457 (out_hs b1 b2) (out_cs Pw W o ft rtt fr b1 b2) [] [11,23,35,47,59] J Z
  | true,true,J,Z=>by kernel_rfl
  | true,false,J,Z=>by kernel_rfl
  | false,true,J,Z=>by kernel_rfl
  | false,false,J,Z=>by kernel_rfl
theorem ok_out (w:World){W o ft:Nat→Nat}{rtt:Nat→Nat→Nat}{fr:Nat}  : (X_out w.params W o ft rtt fr).Ok w :=
  ok_of_run (hs:=out_hs (row1 w) (row2 w)) (cs:=out_cs w.params W o ft rtt fr (row1 w) (row2 w)) (ns:=[]) (ts:=[11,23,35,47,59]) ((show ∀ b1 b2,ValidAll prg w (gl w.params) (out_cs w.params W o ft rtt fr b1 b2) from fun b1 b2=>by cases b1<;>cases b2<;>exact vc (fun J Z=>ok_inr w (by decide)) rfl (vc (fun J Z=>ok_sumR rfl) rfl (vc (fun J Z=>ok_inr w (by decide)) rfl (vc (fun J Z=>ok_sumR rfl) rfl (vc (fun J Z=>ok_inr w (by decide)) rfl (vc (fun J Z=>ok_sumR rfl) rfl (vc (fun J Z=>ok_inr w (by decide)) rfl (vc (fun J Z=>ok_sumR rfl) rfl (vc (fun J Z=>ok_inr w (by decide)) rfl (vc (fun J Z=>ok_sumR rfl) rfl (va_nil))))))))))) _ _) rfl rfl (by decide) (show ∀ j∈([]:List Nat),12≤j by decide) (run_out W o ft rtt fr w.params (row1 w) (row2 w))
theorem COk.mem_costs {W o dd pos D f:Nat→Nat}(q:COk W o dd pos D):myCost W D∈(costs W o f).map (·.1):=by
  show myCost W D∈[rowCost (r5 0) W o,rowCost (r5 1) W o,rowCost (r5 2) W o,rowCost (r5 3) W o,rowCost (r5 4) W o]
  simp only [List.mem_cons,List.not_mem_nil,or_false]
  exact q.mem
theorem COk.le_costs {W o dd pos D f:Nat→Nat}(q:COk W o dd pos D):∀ x∈(costs W o f).map (·.1),myCost W D≤x:=by
  intro x hx
  have hx:x∈[rowCost (r5 0) W o,rowCost (r5 1) W o,rowCost (r5 2) W o,rowCost (r5 3) W o,rowCost (r5 4) W o]:=hx
  simp only [List.mem_cons,List.not_mem_nil,or_false] at hx
  rcases hx with rfl | rfl | rfl | rfl | rfl
  · exact q.le 0 (by decide)
  · exact q.le 1 (by decide)
  · exact q.le 2 (by decide)
  · exact q.le 3 (by decide)
  · exact q.le 4 (by decide)
noncomputable def X_pE (Pw:Params)(v:List Iv)(W o a b c:Nat→Nat)(N:Nat)(dd cc d pos D:Nat→Nat):Spec:={ n0:=57,k:=2,nt:=14,d:=330,code:=fun J=>.func lwB (lwE J),pre:=fun J=>[tbF 183 (J 0) [.int 91 0,.int 18 0,.ref (J 27)],tbF 209 (J 1) [.int 121 0,.int 33 0,.ref (J 14)],ro v 0,frm [⟨hsh Pw sOrder,.str sOrder (a 14),.ref (J 13)⟩,⟨hsh Pw sLine,.str sLine (b 0),.ref (J 20)⟩,⟨hsh Pw sPile,.str sPile (b 1),.ref (J 36)⟩,⟨hsh Pw sKk,.str sKk (b 2),.int (o 5:Nat) (a 6)⟩,⟨hsh Pw sLast,.str sLast (c 0),.str (txS (N,(mailC dd cc))) (c 1)⟩,⟨hsh Pw sMail,.str sMail (c 2),.str (lS (mailC dd cc)) (c 3)⟩,⟨hsh Pw sDots,.str sDots (d 0),.str ⟨#[]⟩ (d 1)⟩,⟨hsh Pw sRows,.str sRows (d 2),.ref (J 55)⟩] 8,cellO (.ref (J 2)),cellO (.ref (J 11)),cellO (.ref (J 44)),cellO (.ref (J 54)),cell0,cell0,cellO (.ref (J 12)),lst [.str ⟨#[97]⟩ (a 15),.str ⟨#[98,34]⟩ (a 16),.str ⟨#[35]⟩ (a 17),.str ⟨#[100]⟩ (a 18),.str ⟨#[101]⟩ (a 19),.str ⟨#[102]⟩ (a 20)] 0,ro (wI W (fun j=>a (j+8))) 6,ro (oI o (fun j=>a (j+1))) (a 7),codO (.str sLambda (a 21)) sKeyQ (a 22) (codR 121 33 (a 23) (J 15) (J 16) (J 17) (J 18) (J 19) (a 26) (a 27)),tupT [.str sWeights (a 24)],tbl [],tupT [.str sKk (a 25)],tupT [],tmpO sKeyQ lamK,lexO (J 21),lexD (hLex Pw) (fLex (b 4) (b 5) (b 6) (b 7) (b 8) 0) (.int 1 (b 3)) (.ref (J 23)) (J 22) [] 4,lst [] (c 23+1+1+1),lexO (J 24),lexD (hLex Pw) (fLex (b 10) (b 11) (b 12) (b 13) (b 14) (b 15)) (.int 1 (b 9)) .none (J 25) [⟨hsh Pw sRead,.str sRead (b 15),.ref (J 26)⟩] 5,lst [] 0,lamO lamP (J 28) (J 27) (J 29),codO (.str sLambda (b 16)) sLamQ (b 17) (codR 91 18 (b 18) (J 30) (J 31) (J 32) (J 33) (J 34) (b 21) (b 22)),cellO (.ref (J 35)),tupT [.ref (J 28)],tupT [.str sLeft (b 19)],tbl [],tupT [.str sSize (b 20)],tupT [],tmpO sLamQ lamP,lst [] (EE o (b 36) 6),accO (J 37) [] (c 24),accD (hsh Pw sInit) (b 23) 305,tupO [.str (sp (W (o 0))) (b 24),.str (lS (46::10::nmC (o 0))) (b 25)],tupO [.str (sp (W (o 1))) (b 26),.str (lS (46::10::nmC (o 1))) (b 27)],tupO [.str (sp (W (o 2))) (b 28),.str (lS (46::10::nmC (o 2))) (b 29)],tupO [.str (sp (W (o 3))) (b 30),.str (lS (46::10::nmC (o 3))) (b 31)],tupO [.str (sp (W (o 4))) (b 32),.str (lS (46::10::nmC (o 4))) (b 33)],tupO [.str (sp (W (o 5))) (b 34),.str (lS (46::10::nmC (o 5))) (b 35)],lexO (J 45),lexD (hLex Pw) (fLex (c 5) (c 6) (c 7) (c 8) (c 9) 0) (.int 12 (d 3)) (.ref (J 47)) (J 46) [] 4,lst [] (1+1),lexO (J 48),lexD (hLex Pw) (fLex (c 11) (c 12) (c 13) (c 14) (c 15) (c 16)) (.int 1 (c 10)) .none (J 49) [⟨hsh Pw sRead,.str sRead (c 16),.ref (J 50)⟩] 5,lst [] 0,lamO lamP (J 51) (J 27) (J 52),cellO (.ref (J 53)),tupT [.ref (J 51)],lst [] (EM dd cc (c 19) 12),lst [.str (txS (N,(mailC dd cc))) (c 1),.str (lS (dC (dd 0))) (d 4),.str (nmS (cc 0)) (d 5),.str (lS (dC (dd 1))) (d 6),.str (nmS (cc 1)) (d 7),.str (lS (dC (dd 2))) (d 8),.str (nmS (cc 2)) (d 9),.str (lS (dC (dd 3))) (d 10),.str (nmS (cc 3)) (d 11),.str (lS (dC (dd 4))) (d 12),.str (nmS (cc 4)) (d 13),.str (lS (dC (dd 5))) (d 14),.str (nmS (cc 5)) (d 15)] 13,lst (rw5 (lS (mailC dd cc)) (d 16) (J 56) ⟨#[]⟩ (d 1) ⟨#[]⟩ (d 17) 12 (d 3)) 0,lst (strValues (sv6 qN (fun j=>d (j+18)))) (d 24)],res:=fun J Z=>.ok (.ret (.bool true)),post:=fun J Z=>[tbF 183 (J 0) [.int 91 0,.int 18 0,.ref (J 27)],tbF 209 (J 1) [.int 121 0,.int 33 0,.ref (J 14)],ro v 0,frm [⟨hsh Pw sOrder,.str sOrder (a 14),.ref (J 13)⟩,⟨hsh Pw sLine,.str sLine (b 0),.ref (J 20)⟩,⟨hsh Pw sPile,.str sPile (b 1),.ref (J 36)⟩,⟨hsh Pw sKk,.str sKk (b 2),.int (o 5:Nat) (a 6)⟩,⟨hsh Pw sLast,.str sLast (c 0),.str (txS (N,(mailC dd cc))) (c 1)⟩,⟨hsh Pw sMail,.str sMail (c 2),.str (lS (mailC dd cc)) (c 3)⟩,⟨hsh Pw sDots,.str sDots (d 0),.str ⟨#[]⟩ (d 1)⟩,⟨hsh Pw sRows,.str sRows (d 2),.ref (J 55)⟩,⟨hsh Pw sLeast,.str sLeast (Z 12),.int (myCost W D) (Z 13)⟩] 9,cellO (.ref (J 2)),cellO (.ref (J 11)),cellO (.ref (J 44)),cellO (.ref (J 54)),cellO (.ref (J 57)),cellO (.ref (J 58)),cellO (.ref (J 12)),lst [.str ⟨#[97]⟩ (a 15),.str ⟨#[98,34]⟩ (a 16),.str ⟨#[35]⟩ (a 17),.str ⟨#[100]⟩ (a 18),.str ⟨#[101]⟩ (a 19),.str ⟨#[102]⟩ (a 20)] 0,ro (wI W (fun j=>a (j+8))) 6,ro (oI o (fun j=>a (j+1))) (a 7),codO (.str sLambda (a 21)) sKeyQ (a 22) (codR 121 33 (a 23) (J 15) (J 16) (J 17) (J 18) (J 19) (a 26) (a 27)),tupT [.str sWeights (a 24)],tbl [],tupT [.str sKk (a 25)],tupT [],tmpO sKeyQ lamK,lexO (J 21),lexD (hLex Pw) (fLex (b 4) (b 5) (b 6) (b 7) (b 8) 0) (.int 1 (b 3)) (.ref (J 23)) (J 22) [] 4,lst [] (c 23+1+1+1),lexO (J 24),lexD (hLex Pw) (fLex (b 10) (b 11) (b 12) (b 13) (b 14) (b 15)) (.int 1 (b 9)) .none (J 25) [⟨hsh Pw sRead,.str sRead (b 15),.ref (J 26)⟩] 5,lst [] 0,lamO lamP (J 28) (J 27) (J 29),codO (.str sLambda (b 16)) sLamQ (b 17) (codR 91 18 (b 18) (J 30) (J 31) (J 32) (J 33) (J 34) (b 21) (b 22)),cellO (.ref (J 35)),tupT [.ref (J 28)],tupT [.str sLeft (b 19)],tbl [],tupT [.str sSize (b 20)],tupT [],tmpO sLamQ lamP,lst [] (EE o (b 36) 6),accO (J 37) [] (c 24),accD (hsh Pw sInit) (b 23) 305,tupO [.str (sp (W (o 0))) (b 24),.str (lS (46::10::nmC (o 0))) (b 25)],tupO [.str (sp (W (o 1))) (b 26),.str (lS (46::10::nmC (o 1))) (b 27)],tupO [.str (sp (W (o 2))) (b 28),.str (lS (46::10::nmC (o 2))) (b 29)],tupO [.str (sp (W (o 3))) (b 30),.str (lS (46::10::nmC (o 3))) (b 31)],tupO [.str (sp (W (o 4))) (b 32),.str (lS (46::10::nmC (o 4))) (b 33)],tupO [.str (sp (W (o 5))) (b 34),.str (lS (46::10::nmC (o 5))) (b 35)],lexO (J 45),lexD (hLex Pw) (fLex (c 5) (c 6) (c 7) (c 8) (c 9) 0) (.int 12 (d 3)) (.ref (J 47)) (J 46) [] 4,lst [] (1+1),lexO (J 48),lexD (hLex Pw) (fLex (c 11) (c 12) (c 13) (c 14) (c 15) (c 16)) (.int 1 (c 10)) .none (J 49) [⟨hsh Pw sRead,.str sRead (c 16),.ref (J 50)⟩] 5,lst [] 0,lamO lamP (J 51) (J 27) (J 52),cellO (.ref (J 53)),tupT [.ref (J 51)],lst [] (EM dd cc (c 19) 12),lst [.str (txS (N,(mailC dd cc))) (c 1),.str (lS (dC (dd 0))) (d 4),.str (nmS (cc 0)) (d 5),.str (lS (dC (dd 1))) (d 6),.str (nmS (cc 1)) (d 7),.str (lS (dC (dd 2))) (d 8),.str (nmS (cc 2)) (d 9),.str (lS (dC (dd 3))) (d 10),.str (nmS (cc 3)) (d 11),.str (lS (dC (dd 4))) (d 12),.str (nmS (cc 4)) (d 13),.str (lS (dC (dd 5))) (d 14),.str (nmS (cc 5)) (d 15)] 13,lst (rw5 (lS (mailC dd cc)) (d 16) (J 56) ⟨#[]⟩ (d 1) ⟨#[]⟩ (d 17) 12 (d 3)) 0,lst (strValues (sv6 qN (fun j=>d (j+18)))) (d 24)],new:=fun J Z=>[ro (wI D (fun j=>Z j)) 6,ro (wI (fun j=>W (o j)) (fun j=>Z (j+6))) 6] }
noncomputable def pE_hs (b1 b2:Bool):List Nat:=(match b1,b2 with | true,true=>[6,12,12,12,58,60,60,60,9,9,4,14,14,14,61,63,63,63,10,10,0,0,0,0,64,64,64,70,4,4,0,0,0,0,74,74,74,74,74,74,74,74,74,74,75,77,77,77,4] | true,false=>[6,12,12,12,58,58,58,58,58,60,60,60,9,9,4,14,14,14,61,61,61,61,61,63,63,63,10,10,0,0,0,0,64,64,64,70,70,70,70,70,4,4,0,0,0,0,74,74,74,74,74,74,74,74,74,74,75,75,75,75,75,77,77,77,4] | false,true=>[6,12,12,12,58,60,60,60,9,9,4,14,14,14,61,63,63,63,10,10,0,0,0,0,64,64,64,70,4,4,0,0,0,0,74,74,74,74,74,74,74,74,74,74,75,77,77,77,4] | false,false=>[6,12,12,12,58,58,58,58,58,60,60,60,9,9,4,14,14,14,61,61,61,61,61,63,63,63,10,10,0,0,0,0,64,64,64,70,70,70,70,70,4,4,0,0,0,0,74,74,74,74,74,74,74,74,74,74,75,75,75,75,75,77,77,77,4])
noncomputable def pE_cs (Pw:Params)(v:List Iv)(W o a b c:Nat→Nat)(N:Nat)(dd cc d pos D:Nat→Nat)(b1 b2:Bool):List Ev:=(match b1,b2 with | true,true=>[evX (fun J Z=>X_dep Pw N dd cc pos D (c 1) (fun j=>d (4+j)) (fun j=>a (15+j)) (J 3)) [59,57,58,7,54,11] 3 60 0,evX (fun J Z=>X_fal Pw W o (fun j=>a (j+1)) (a 7) (fun j=>a (j+8)) 6 (J 3)) [62,60,61,10,12,13] 3 63 7,evX (fun J Z=>X_rows (Z 14)) [] 0 63 15,evX (fun J Z=>X_out Pw W o (pick [(Z 7),(Z 8),(Z 9),(Z 10),(Z 11),(Z 12)] 0) (fun i=>pick (pick [[(Z 15),(Z 15),(Z 16),(Z 16),(Z 17),(Z 17)],[(Z 18),(Z 15),(Z 15),(Z 16),(Z 19),(Z 19)],[(Z 20),(Z 21),(Z 22),(Z 22),(Z 23),(Z 23)],[(Z 20),(Z 18),(Z 24),(Z 24),(Z 25),(Z 25)],[(Z 20),(Z 18),(Z 21),(Z 24),(Z 26),(Z 26)]] [] i) 0) (J 3)) [71,69,70,72,9,61,63,64,65,66,67,68] 3 73 27,evX (fun J Z=>X_min (costs W o (pick [(Z 27),(Z 28),(Z 29),(Z 30),(Z 31)] 0)) 5 (myCost W D)) [70] 1 73 32,evX (fun J Z=>X_cost Pw W (fun j=>a (j+8)) 6 D (pick [(Z 0),(Z 1),(Z 2),(Z 3),(Z 4),(Z 5)] 0) (J 3)) [76,74,75,10,12,8,58] 9 77 37,evX (fun J Z=>X_sumR (prodI W D (pick [(Z 37),(Z 38),(Z 39),(Z 40),(Z 41),(Z 42)] 0)) 6 (myCost W D)) [75] 1 77 45,evX (fun J Z=>X_ieq (myCost W D) (Z 45) (myCost W D) (Z 32) true) [] 1 77 46] | true,false=>[evX (fun J Z=>X_dep Pw N dd cc pos D (c 1) (fun j=>d (4+j)) (fun j=>a (15+j)) (J 3)) [59,57,58,7,54,11] 5 60 0,evX (fun J Z=>X_fal Pw W o (fun j=>a (j+1)) (a 7) (fun j=>a (j+8)) 6 (J 3)) [62,60,61,10,12,13] 5 63 7,evX (fun J Z=>X_rows (Z 14)) [] 0 63 15,evX (fun J Z=>X_out Pw W o (pick [(Z 7),(Z 8),(Z 9),(Z 10),(Z 11),(Z 12)] 0) (fun i=>pick (pick [[(Z 15),(Z 15),(Z 16),(Z 16),(Z 17),(Z 17)],[(Z 18),(Z 15),(Z 15),(Z 16),(Z 19),(Z 19)],[(Z 20),(Z 21),(Z 22),(Z 22),(Z 23),(Z 23)],[(Z 20),(Z 18),(Z 24),(Z 24),(Z 25),(Z 25)],[(Z 20),(Z 18),(Z 21),(Z 24),(Z 26),(Z 26)]] [] i) 0) (J 3)) [71,69,70,72,9,61,63,64,65,66,67,68] 5 73 27,evX (fun J Z=>X_min (costs W o (pick [(Z 27),(Z 28),(Z 29),(Z 30),(Z 31)] 0)) 5 (myCost W D)) [70] 1 73 32,evX (fun J Z=>X_cost Pw W (fun j=>a (j+8)) 6 D (pick [(Z 0),(Z 1),(Z 2),(Z 3),(Z 4),(Z 5)] 0) (J 3)) [76,74,75,10,12,8,58] 11 77 37,evX (fun J Z=>X_sumR (prodI W D (pick [(Z 37),(Z 38),(Z 39),(Z 40),(Z 41),(Z 42)] 0)) 6 (myCost W D)) [75] 1 77 45,evX (fun J Z=>X_ieq (myCost W D) (Z 45) (myCost W D) (Z 32) true) [] 1 77 46] | false,true=>[evX (fun J Z=>X_dep Pw N dd cc pos D (c 1) (fun j=>d (4+j)) (fun j=>a (15+j)) (J 3)) [59,57,58,7,54,11] 3 60 0,evX (fun J Z=>X_fal Pw W o (fun j=>a (j+1)) (a 7) (fun j=>a (j+8)) 6 (J 3)) [62,60,61,10,12,13] 3 63 7,evX (fun J Z=>X_rows (Z 14)) [] 0 63 15,evX (fun J Z=>X_out Pw W o (pick [(Z 7),(Z 8),(Z 9),(Z 10),(Z 11),(Z 12)] 0) (fun i=>pick (pick [[(Z 15),(Z 15),(Z 16),(Z 16),(Z 17),(Z 17)],[(Z 18),(Z 15),(Z 15),(Z 16),(Z 19),(Z 19)],[(Z 20),(Z 21),(Z 22),(Z 22),(Z 23),(Z 23)],[(Z 20),(Z 18),(Z 24),(Z 24),(Z 25),(Z 25)],[(Z 20),(Z 18),(Z 21),(Z 24),(Z 26),(Z 26)]] [] i) 0) (J 3)) [71,69,70,72,9,61,63,64,65,66,67,68] 3 73 27,evX (fun J Z=>X_min (costs W o (pick [(Z 27),(Z 28),(Z 29),(Z 30),(Z 31)] 0)) 5 (myCost W D)) [70] 1 73 32,evX (fun J Z=>X_cost Pw W (fun j=>a (j+8)) 6 D (pick [(Z 0),(Z 1),(Z 2),(Z 3),(Z 4),(Z 5)] 0) (J 3)) [76,74,75,10,12,8,58] 9 77 37,evX (fun J Z=>X_sumR (prodI W D (pick [(Z 37),(Z 38),(Z 39),(Z 40),(Z 41),(Z 42)] 0)) 6 (myCost W D)) [75] 1 77 45,evX (fun J Z=>X_ieq (myCost W D) (Z 45) (myCost W D) (Z 32) true) [] 1 77 46] | false,false=>[evX (fun J Z=>X_dep Pw N dd cc pos D (c 1) (fun j=>d (4+j)) (fun j=>a (15+j)) (J 3)) [59,57,58,7,54,11] 5 60 0,evX (fun J Z=>X_fal Pw W o (fun j=>a (j+1)) (a 7) (fun j=>a (j+8)) 6 (J 3)) [62,60,61,10,12,13] 5 63 7,evX (fun J Z=>X_rows (Z 14)) [] 0 63 15,evX (fun J Z=>X_out Pw W o (pick [(Z 7),(Z 8),(Z 9),(Z 10),(Z 11),(Z 12)] 0) (fun i=>pick (pick [[(Z 15),(Z 15),(Z 16),(Z 16),(Z 17),(Z 17)],[(Z 18),(Z 15),(Z 15),(Z 16),(Z 19),(Z 19)],[(Z 20),(Z 21),(Z 22),(Z 22),(Z 23),(Z 23)],[(Z 20),(Z 18),(Z 24),(Z 24),(Z 25),(Z 25)],[(Z 20),(Z 18),(Z 21),(Z 24),(Z 26),(Z 26)]] [] i) 0) (J 3)) [71,69,70,72,9,61,63,64,65,66,67,68] 5 73 27,evX (fun J Z=>X_min (costs W o (pick [(Z 27),(Z 28),(Z 29),(Z 30),(Z 31)] 0)) 5 (myCost W D)) [70] 1 73 32,evX (fun J Z=>X_cost Pw W (fun j=>a (j+8)) 6 D (pick [(Z 0),(Z 1),(Z 2),(Z 3),(Z 4),(Z 5)] 0) (J 3)) [76,74,75,10,12,8,58] 11 77 37,evX (fun J Z=>X_sumR (prodI W D (pick [(Z 37),(Z 38),(Z 39),(Z 40),(Z 41),(Z 42)] 0)) 6 (myCost W D)) [75] 1 77 45,evX (fun J Z=>X_ieq (myCost W D) (Z 45) (myCost W D) (Z 32) true) [] 1 77 46])
theorem run_pE (v:List Iv)(W o a b c:Nat→Nat)(N:Nat)(dd cc d pos D:Nat→Nat)(Pw:Params):∀ (b1 b2:Bool) (J Z:Nu),RG (X_pE Pw v W o a b c N dd cc d pos D) (fun J=>stD [stOf 16,stOf 17,stOf 18,stOf 19] (lwE J)) Pw b1 b2 201 (pE_hs b1 b2) (pE_cs Pw v W o a b c N dd cc d pos D b1 b2) [58,61] [0,1,2,3,4,5,7,8,9,10,11,12,33,32] (upF J) Z
  | true,true,J,Z=>by kernel_rfl
  | true,false,J,Z=>by kernel_rfl
  | false,true,J,Z=>by kernel_rfl
  | false,false,J,Z=>by kernel_rfl
theorem va_pE (w:World){v:List Iv}{W o a b c:Nat→Nat}{N:Nat}{dd cc d pos D:Nat→Nat}(h:OOk W o)(r:ROk W o N dd cc pos)(q:COk W o dd pos D)(b1 b2:Bool):ValidAll prg w (gl w.params) (pE_cs w.params v W o a b c N dd cc d pos D b1 b2):=by cases b1<;>cases b2<;>exact vc (fun J Z=>ok_dep w r q) rfl (vc (fun J Z=>ok_fal w h) rfl (vc (fun J Z=>ok_rows w) rfl (vc (fun J Z=>ok_out w) rfl (vc (fun J Z=>ok_min q.mem_costs q.le_costs) rfl (vc (fun J Z=>ok_cost w h) rfl (vc (fun J Z=>ok_sumR rfl) rfl (vc (fun J Z=>ok_ieq (beq_self_eq_true _)) rfl (va_nil))))))))
theorem ok_pE (w:World){v:List Iv}{W o a b c:Nat→Nat}{N:Nat}{dd cc d pos D:Nat→Nat}(h:OOk W o)(r:ROk W o N dd cc pos)(q:COk W o dd pos D):StOk w (X_pE w.params v W o a b c N dd cc d pos D) [stOf 16,stOf 17,stOf 18,stOf 19] lwE :=
  st_of_runG (hs:=pE_hs (row1 w) (row2 w)) (cs:=pE_cs w.params v W o a b c N dd cc d pos D (row1 w) (row2 w)) (ns:=[58,61]) (ts:=[0,1,2,3,4,5,7,8,9,10,11,12,33,32]) (va_pE w h r q (row1 w) (row2 w)) rfl rfl (by decide) (show ∀ j∈([58,61]:List Nat),57≤j by decide) (hU_F (Nat.le_of_ble_eq_true rfl) (fun _=>rfl) (fun _=>rfl)) (run_pE v W o a b c N dd cc d pos D w.params (row1 w) (row2 w)) (fun _=>rfl) (fun _ _=>⟨_,rfl⟩)
end
section
open PySem PySem.W PySem.W.X PySem.Spec PySem.Calls
set_option maxHeartbeats 1000000
structure Dat where
  N:Nat
  dd:Nat→Nat
  cc:Nat→Nat
  pos:Nat→Nat
  D:Nat→Nat
theorem ne_dat:Nonempty Dat:=⟨⟨0,id,id,id,id⟩⟩
def DOk (W o:Nat→Nat)(x:Dat):Prop:=ROk W o x.N x.dd x.cc x.pos∧COk W o x.dd x.pos x.D
noncomputable def datOf (W o:Nat→Nat):Dat:=@Classical.epsilon Dat ne_dat (DOk W o)
theorem dat_ok {W o:Nat→Nat}(h:∃ x,DOk W o x):DOk W o (datOf W o):=Classical.epsilon_spec h
theorem lwE_same {μ J:Nu}(h:Agree 11 μ J):lwE μ=lwE J:=by
  unfold lwE
  rw [h 3 (by decide),h 4 (by decide),h 5 (by decide),h 6 (by decide),h 7 (by decide),h 8 (by decide),h 9 (by decide),h 10 (by decide)]
section
variable (Pw:Params)(v:List Iv)(sl:Nat→List Iv)(W:Nat→Nat)
noncomputable def Y6 (o a b c d:Nat→Nat)(x:Dat):Spec:=seqX (X_pD3 Pw v W o a b c x.N x.dd x.cc d) 2 14 fun _=>X_pE Pw v W o a b c x.N x.dd x.cc d x.pos x.D
noncomputable def Y5 (o a b c d:Nat→Nat)(x:Dat):Spec:=seqX (X_pD2 Pw v W o a b c x.N x.dd x.cc d) 2 14 fun _=>Y6 Pw v W o a b c d x
noncomputable def Y4 (o a b c:Nat→Nat)(x:Dat):Spec:=seqX (X_pD1 Pw v W o a b c x.N x.dd x.cc) 2 14 fun d=>Y5 Pw v W o a b c d x
noncomputable def Y3 (o a b:Nat→Nat)(x:Dat):Spec:=seqX (X_pC Pw v W o a b x.N (mailC x.dd x.cc)) 5 39 fun c=>Y4 Pw v W o a b c x
noncomputable def Y2 (o a:Nat→Nat)(x:Dat):Spec:=seqX (X_pB Pw v W o a) 15 64 fun b=>Y3 Pw v W o a b x
noncomputable def Y1:Spec:=seqX (X_pA Pw v sl W) 39 101 fun a=>Y2 Pw v W (orI W (a 0)) a (datOf W (orI W (a 0)))
end
section
variable {w:World}{v:List Iv}{sl:Nat→List Iv}{W o:Nat→Nat}
theorem ok_Y6 {a b c d:Nat→Nat}{x:Dat}(h:OOk W o)(r:ROk W o x.N x.dd x.cc x.pos)(q:COk W o x.dd x.pos x.D):StOk w (Y6 w.params v W o a b c d x) ([stOf 15]++[stOf 16,stOf 17,stOf 18,stOf 19]) lwE :=
  seq_ok (n1:=57) rfl (ok_pD3 w h r) (fun _=>ok_pE w h r q) (fun _ _=>rfl) (fun _ _=>rfl) (fun _=>rfl) (fun _=>rfl) (fun _=>rfl) (fun _=>rfl) (fun _ _=>rfl) (fun _ _ _=>rfl) (fun μ J ha=>lwE_same (ha.mono (Nat.le_of_ble_eq_true rfl))) (fun μ J _ ha=>by show Code.func lwB (lwE μ)=Code.func lwB (lwE J);rw [lwE_same (ha.mono (Nat.le_of_ble_eq_true rfl))])
theorem ok_Y5 {a b c d:Nat→Nat}{x:Dat}(h:OOk W o)(r:ROk W o x.N x.dd x.cc x.pos)(q:COk W o x.dd x.pos x.D):StOk w (Y5 w.params v W o a b c d x) ([stOf 14]++([stOf 15]++[stOf 16,stOf 17,stOf 18,stOf 19])) lwE :=
  seq_ok (n1:=57) rfl (ok_pD2 h r) (fun _=>ok_Y6 h r q) (fun _ _=>rfl) (fun _ _=>rfl) (fun _=>rfl) (fun _=>rfl) (fun _=>rfl) (fun _=>rfl) (fun _ _=>rfl) (fun _ _ _=>rfl) (fun μ J ha=>lwE_same (ha.mono (Nat.le_of_ble_eq_true rfl))) (fun μ J _ ha=>by show Code.func lwB (lwE μ)=Code.func lwB (lwE J);rw [lwE_same (ha.mono (Nat.le_of_ble_eq_true rfl))])
theorem ok_Y4 {a b c:Nat→Nat}{x:Dat}(h:OOk W o)(r:ROk W o x.N x.dd x.cc x.pos)(q:COk W o x.dd x.pos x.D):StOk w (Y4 w.params v W o a b c x) ([stOf 11,stOf 12,stOf 13]++([stOf 14]++([stOf 15]++[stOf 16,stOf 17,stOf 18,stOf 19]))) lwE :=
  seq_ok (n1:=57) rfl (ok_pD1 w h r) (fun _=>ok_Y5 h r q) (fun _ _=>rfl) (fun _ _=>rfl) (fun _=>rfl) (fun _=>rfl) (fun _=>rfl) (fun _=>rfl) (fun _ _=>rfl) (fun _ _ _=>rfl) (fun μ J ha=>lwE_same (ha.mono (Nat.le_of_ble_eq_true rfl))) (fun μ J _ ha=>by show Code.func lwB (lwE μ)=Code.func lwB (lwE J);rw [lwE_same (ha.mono (Nat.le_of_ble_eq_true rfl))])
theorem ok_Y3 {a b:Nat→Nat}{x:Dat}(h:OOk W o)(r:ROk W o x.N x.dd x.cc x.pos)(q:COk W o x.dd x.pos x.D):StOk w (Y3 w.params v W o a b x) ([stOf 6,stOf 7,stOf 8,stOf 9,stOf 10]++([stOf 11,stOf 12,stOf 13]++([stOf 14]++([stOf 15]++[stOf 16,stOf 17,stOf 18,stOf 19])))) lwE :=
  seq_ok (n1:=54) rfl (ok_pC w h r.z) (fun _=>ok_Y4 h r q) (fun _ _=>rfl) (fun _ _=>rfl) (fun _=>rfl) (fun _=>rfl) (fun _=>rfl) (fun _=>rfl) (fun _ _=>rfl) (fun _ _ _=>rfl) (fun μ J ha=>lwE_same (ha.mono (Nat.le_of_ble_eq_true rfl))) (fun μ J _ ha=>by show Code.func lwB (lwE μ)=Code.func lwB (lwE J);rw [lwE_same (ha.mono (Nat.le_of_ble_eq_true rfl))])
theorem ok_Y2 {a:Nat→Nat}{x:Dat}(h:OOk W o)(r:ROk W o x.N x.dd x.cc x.pos)(q:COk W o x.dd x.pos x.D):StOk w (Y2 w.params v W o a x) ([stOf 3,stOf 4,stOf 5]++([stOf 6,stOf 7,stOf 8,stOf 9,stOf 10]++([stOf 11,stOf 12,stOf 13]++([stOf 14]++([stOf 15]++[stOf 16,stOf 17,stOf 18,stOf 19]))))) lwE :=
  seq_ok (n1:=44) rfl (ok_pB w h) (fun _=>ok_Y3 h r q) (fun _ _=>rfl) (fun _ _=>rfl) (fun _=>rfl) (fun _=>rfl) (fun _=>rfl) (fun _=>rfl) (fun _ _=>rfl) (fun _ _ _=>rfl) (fun μ J ha=>lwE_same (ha.mono (Nat.le_of_ble_eq_true rfl))) (fun μ J _ ha=>by show Code.func lwB (lwE μ)=Code.func lwB (lwE J);rw [lwE_same (ha.mono (Nat.le_of_ble_eq_true rfl))])
theorem ok_Y1 (hw:WOk v sl W)(hd:∀ n,OOk W (orI W n)∧∃ x,DOk W (orI W n) x):StOk w (Y1 w.params v sl W) lwB lwE :=
  seq_ok (n1:=20) rfl (ok_pA w hw) (fun θ=>ok_Y2 (hd (θ 0)).1 (dat_ok (hd (θ 0)).2).1 (dat_ok (hd (θ 0)).2).2) (fun _ _=>rfl) (fun _ _=>rfl) (fun _=>rfl) (fun _=>rfl) (fun _=>rfl) (fun _=>rfl) (fun _ _=>rfl) (fun _ _ _=>rfl) (fun μ J ha=>lwE_same (ha.mono (Nat.le_of_ble_eq_true rfl))) (fun μ J _ ha=>by show Code.func lwB (lwE μ)=Code.func lwB (lwE J);rw [lwE_same (ha.mono (Nat.le_of_ble_eq_true rfl))])
noncomputable def X_body (Pw:Params)(v:List Iv)(sl:Nat→List Iv)(W:Nat→Nat):Spec:={ Y1 Pw v sl W with d:=328 }
theorem ok_body (hw:WOk v sl W)(hd:∀ n,OOk W (orI W n)∧∃ x,DOk W (orI W n) x):(X_body w.params v sl W).Ok w :=
  func_ok (X:=Y1 w.params v sl W) (body:=lwB) (env:=lwE) (by show 328+1≤330;decide) (fun J=>by show Code.func lwB (lwE (trunc 11 J))=_;rw [lwE_same (fun j hj=>trunc_lt J hj)]) (fun _ _=>⟨_,rfl⟩) (ok_Y1 hw hd)
end
noncomputable def upL (ρ:Nu):Nu:=fun j=>match j with
  | 0=>183
  | 1=>209
  | 2=>213
  | j+3=>Nat.add (ρ j) 183
theorem upL_eq {J:Nu}(h:∀ j,183≤J j)(h0:J 0=183)(h1:J 1=209)(h2:J 2=213):∃ ρ,upL ρ=J:=⟨fun j=>J (j+3)-183,by
  funext j
  match j with
  | 0=>exact h0.symm
  | 1=>exact h1.symm
  | 2=>exact h2.symm
  | j+3=>exact Nat.sub_add_cancel (h (j+3))⟩
noncomputable def lawK:Code:=.call (.ref 212) ⟨[.ref 213],[]⟩
noncomputable def look3 (r:Result)(T:BT)(m i:Nat):Result×List (Option Obj):=(r,(List.range 3).map T.get)
noncomputable def lawEvs (P:Params)(v:List Iv)(sl:Nat→List Iv)(W:Nat→Nat):List Ev:=[evX (fun J Z=>X_body P v sl W) [0,1,2,3,4,5,6,7,8,9,10] 0 11 0]
noncomputable def lawOut (P:Params)(b1 b2:Bool)(v:List Iv)(sl:Nat→List Iv)(W:Nat→Nat)(J Z:Nu):Out :=
  sim prg (rowsP P b1 b2) (gl P) 320 J Z 40 lawK [] (den lawK) (T0 [tbl [],tbl [],ro v 0]) ([183,209,213]:List Addr).length 0 [0,0,5,5,1] (lawEvs P v sl W) []
theorem run_law (P:Params)(v:List Iv)(sl:Nat→List Iv)(W:Nat→Nat):∀ (b1 b2:Bool) (ρ Z:Nu),((lawOut P b1 b2 v sl W (upL ρ) Z).L,(lawOut P b1 b2 v sl W (upL ρ) Z).get look3)=((lawOut P b1 b2 v sl W (upL ρ) Z).R,some (.ok (.ret (.bool true)),[some (tbl [.int 91 0,.int 18 0,.ref (upL ρ 27)]),some (tbl [.int 121 0,.int 33 0,.ref (upL ρ 14)]),some (ro v 0)]))
  | true,b2,ρ,Z=>by kernel_rfl
  | false,b2,ρ,Z=>by kernel_rfl
theorem gl_of {w:World}{s:Shared}(ZH:KT.Holds s.heap 1 0 (zhd.ktop_413 w.params)):∀ a o,gl w.params a=some o→s.heap.get? a=some o:=by
  intro a o h
  unfold gl at h
  split at h
  · cases h
  · split at h
    · cases h
    · split at h
      · exact kt_at ZH h
      · cases h
theorem caller_small:Small callerA 320:=⟨rfl,by decide,by decide⟩
theorem gl_183 (P:Params):gl P 183=none:=rfl
theorem gl_209 (P:Params):gl P 209=none:=rfl
theorem gl_213 (P:Params):gl P 213=none:=rfl
def LawQ (v:List Iv)(r:Result)(T:BT)(J:Nu):Prop:=∃ (os:List Obj) (ns:List Nat) (no:List Obj),(r=.ok (.ret (.bool true))∧∃ m1 m2,os=[tbl m1,tbl m2,ro v 0])∧(List.range ([183,209,213]:List Addr).length).map T.get=os.map some∧ns.map T.get=no.map some∧ns.Nodup∧∀ j∈ns,([183,209,213]:List Addr).length≤j
structure GoodS (o:Out)(v:List Iv)(J:Nu):Prop where
  h:Good o (fun r T m _=>LawQ v r T J)
theorem good_look {o:Out}{v:List Iv}{J:Nu}{m1 m2:List Value}(h:(o.L,o.get look3)=(o.R,some (.ok (.ret (.bool true)),[some (tbl m1),some (tbl m2),some (ro v 0)]))):GoodS o v J :=
  ⟨good_of h fun r T m i h=>⟨[tbl m1,tbl m2,ro v 0],[],[],⟨(Prod.mk.inj h).1,_,_,rfl⟩,(Prod.mk.inj h).2,rfl,List.nodup_nil,fun _ hj=>by cases hj⟩⟩
theorem law_good {P:Params}{b1 b2:Bool}{v:List Iv}{sl:Nat→List Iv}{W:Nat→Nat}{J Z:Nu}(h:∃ ρ,upL ρ=J):GoodS (lawOut P b1 b2 v sl W J Z) v J:=by
  obtain ⟨ρ,rfl⟩:=h
  exact good_look (run_law P v sl W b1 b2 ρ Z)
theorem wp_of_out {w:World}{s:Shared}{v:List Iv}{F:Nu→Nu→Out}{cs:List Ev}(V:ValidAll prg w (gl w.params) cs)(hF:F=fun J Z=>sim prg (rowsP w.params (row1 w) (row2 w)) (gl w.params) 320 J Z 40 lawK [] (den lawK) (T0 [tbl [],tbl [],ro v 0]) ([183,209,213]:List Addr).length 0 [0,0,5,5,1] cs [])
    (H:∀ J Z:Nu,(∀ j,183≤J j)→J 0=183→J 1=209→J 2=213→GoodS (F J Z) v J)
    (hg:∀ a o,gl w.params a=some o→s.heap.get? a=some o) (hp:Has s.heap [183,209,213] [tbl [],tbl [],ro v 0]) (hout:∀ a∈[183,209,213],gl w.params a=none∧183≤a)
    {R:Result→Shared→Prop} (hR:∀ r s',(r=.ok (.ret (.bool true))∧(∃ m1 m2,Has s'.heap [183,209,213] [tbl m1,tbl m2,ro v 0])∧After (gl w.params) [183,209,213] s s')→R r s'):wpOwn (model prg w) callerA lawK (den lawK) (postC prg w callerA R) (postE R) s:=by
  subst hF
  exact @wp_of_sim w (rowsP w.params (row1 w) (row2 w)) (rows_eq w.params) 320 40 lawK (den lawK) [183,209,213] [tbl [],tbl [],ro v 0] [0,0,5,5,1] cs (fun r os nw=>r=.ok (.ret (.bool true))∧∃ m1 m2,os=[tbl m1,tbl m2,ro v 0]) V
    (fun J Z hlo hJ=>(H J Z hlo (hJ 0 (Nat.le_of_ble_eq_true rfl)) (hJ 1 (Nat.le_of_ble_eq_true rfl)) (hJ 2 (Nat.le_of_ble_eq_true rfl))).h) callerA s caller_small hg hp (List.nodup_cons.mpr ⟨by simp,List.nodup_cons.mpr ⟨by simp,List.nodup_cons.mpr ⟨by simp,List.nodup_nil⟩⟩⟩) hout R (fun r s' h=>by
      obtain ⟨os,nw,⟨hr,m1,m2,rfl⟩,hos,_,_,F⟩:=h
      exact hR r s' ⟨hr,⟨m1,m2,hos⟩,F⟩)
theorem law_does (HP:∀ v:List Iv,v.length≤63→∃ sl W,WOk v sl W∧∀ n,OOk W (orI W n)∧∃ x,DOk W (orI W n) x):LawDoes:=by
  intro w s v ZH hsz hgen h213 hv
  obtain ⟨sl,W,hw,hd⟩:=HP v hv
  have hg:=gl_of ZH
  have hp:Has s.heap [183,209,213] [tbl [],tbl [],ro v 0]:=has_cons.mpr ⟨tab183 ZH,has_cons.mpr ⟨tab209 ZH,has_cons.mpr ⟨h213,rfl⟩⟩⟩
  have hout:∀ a∈[183,209,213],gl w.params a=none∧183≤a:=fun a ha=>by
    simp only [List.mem_cons,List.not_mem_nil,or_false] at ha
    rcases ha with rfl | rfl | rfl
    · exact ⟨gl_183 _,by decide⟩
    · exact ⟨gl_209 _,by decide⟩
    · exact ⟨gl_213 _,by decide⟩
  have V:ValidAll prg w (gl w.params) (lawEvs w.params v sl W):=vc (fun J Z=>ok_body hw hd) rfl va_nil
  show codeAny (model prg w) callerA lawK _ s
  refine y_code _ _ _ _ _ _ ?_
  rw [den_eq]
  refine wp_of_out (v:=v) (F:=lawOut w.params (row1 w) (row2 w) v sl W) (cs:=lawEvs w.params v sl W) V rfl (fun J Z hlo h0 h1 h2=>law_good (upL_eq hlo h0 h1 h2)) hg hp hout ?_
  rintro r s' ⟨hr,⟨m1,m2,hos⟩,F⟩
  obtain ⟨g0,hq⟩:=has_cons.mp hos
  obtain ⟨g1,hq⟩:=has_cons.mp hq
  obtain ⟨g2,_⟩:=has_cons.mp hq
  refine ⟨hr,fun b o e h1 h2=>?_,⟨_,g0⟩,⟨_,g1⟩,F.os,F.gens⟩
  by_cases h3:b=213
  · subst h3
    have:(ro v 0)=o:=Option.some.inj (h213.symm.trans e)
    rw [← this]
    exact g2
  · refine F.keep b o e fun hm=>?_
    simp only [List.mem_cons,List.not_mem_nil,or_false] at hm
    rcases hm with h | h | h
    · exact h1 h
    · exact h2 h
    · exact h3 h
def PlainR (w:List Nat):Prop:=w≠[]∧∀ c∈w,c≠10∧c≠13
def Eol (e:List Nat):Prop:=e=[10]∨e=[13]∨e=[13,10]
inductive ET:List (List Nat)→List Nat→Prop
  | one (w:List Nat):PlainR w→ET [w] w
  | cons (w e:List Nat) (rows:List (List Nat)) (t:List Nat):PlainR w→Eol e→ET rows t→ET (w::rows) (w++e++t)
theorem ET.head {rows:List (List Nat)}{t:List Nat}(h:ET rows t):∃ c l,t=c::l∧c≠10∧c≠13:=by
  have key:∀ w:List Nat,PlainR w→∃ c l,w=c::l∧c≠10∧c≠13:=fun w hw=>by
    obtain ⟨h1,h2⟩:=hw
    cases w with
    | nil=>exact absurd rfl h1
    | cons c l=>exact ⟨c,l,rfl,h2 c mS⟩
  cases h with
  | one _ hw=>exact key _ hw
  | cons w e rows t hw he ht =>
    obtain ⟨c,l,rfl,h⟩:=key w hw
    exact ⟨c,l++e++t,by simp,h⟩
theorem norm_plain:∀ (w:List Nat) (b:Bool) (r:List Nat),PlainR w→normN b (w++r)=w++normN false r
  | [],_,_,h=>absurd rfl h.1
  | [c],b,r,h=>by
    obtain ⟨h1,h2⟩:=h.2 c mS
    show normN b (c::r)=_
    rw [normN,if_neg (by simpa using h2),if_neg (by simpa using h1)]
    rfl
  | c::d::w,b,r,h=>by
    obtain ⟨h1,h2⟩:=h.2 c mS
    have:=norm_plain (d::w) false r ⟨by simp,fun x hx=>h.2 x (mO hx)⟩
    show normN b (c::(d::w++r))=_
    rw [normN,if_neg (by simpa using h2),if_neg (by simpa using h1),this]
    rfl
theorem norm_eol {e t:List Nat}(he:Eol e){c:Nat}{l:List Nat}(ht:t=c::l)(hc:c≠10):normN false (e++t)=13::10::normN false t:=by
  rcases he with rfl | rfl | rfl
  · show normN false (10::t)=_
    rw [normN];rfl
  · show normN false (13::t)=_
    rw [normN,if_pos (by decide),ht,norm_flag (by simpa using hc)]
  · show normN false (13::10::t)=_
    rw [normN,if_pos (by decide),normN];rfl
theorem norm_ET {rows:List (List Nat)}{t:List Nat}(h:ET rows t):normN false t=mailFrom rows:=by
  induction h with
  | one w hw =>
    have:=norm_plain w false [] hw
    rw [List.append_nil] at this
    rw [this]
    show w++[]=w
    rw [List.append_nil]
  | cons w e rows t hw he ht ih =>
    obtain ⟨c,l,e1,h1,h2⟩:=ht.head
    rw [List.append_assoc,norm_plain w false _ hw,norm_eol he e1 h1,ih]
    cases ht<;>rfl
theorem mail_ET:∀ {rows:List (List Nat)},rows≠[]→(∀ w∈rows,PlainR w)→ET rows (mailFrom rows)
  | [],h,_=>absurd rfl h
  | [w],_,hp=>.one w (hp w mS)
  | w::x::rows,_,hp=>by
    have ih:=mail_ET (rows:=x::rows) (by simp) fun y hy=>hp y (mO hy)
    have:=ET.cons w [13,10] (x::rows) _ (hp w mS) (.inr (.inr rfl)) ih
    rw [show mailFrom (w::x::rows)=w++[13,10]++mailFrom (x::rows) by simp [mailFrom]]
    exact this
theorem ET.plain {rows:List (List Nat)}{t:List Nat}(h:ET rows t):∀ w∈rows,PlainR w:=by
  induction h with
  | one w hw=>intro x hx;rw [List.mem_singleton.mp hx];exact hw
  | cons w e rows t hw he ht ih =>
    intro x hx
    rcases mQ hx with rfl | hx
    · exact hw
    · exact ih x hx
theorem ET.ne {rows:List (List Nat)}{t:List Nat}(h:ET rows t):rows≠[]:=by cases h<;>simp
theorem ET.app {r1 r2:List (List Nat)}{t1 t2 e:List Nat}(h1:ET r1 t1)(he:Eol e)(h2:ET r2 t2):ET (r1++r2) (t1++e++t2):=by
  induction h1 with
  | one w hw=>exact .cons w e r2 t2 hw he h2
  | cons w e' rows t hw he' ht ih =>
    have:=ET.cons w e' (rows++r2) _ hw he' ih
    rw [show w++e'++t++e++t2=w++e'++(t++e++t2) by simp only [List.append_assoc]]
    exact this
noncomputable def stuff (w:List Nat):List Nat:=match w with
  | 46::l=>46::46::l
  | l=>l
theorem quote_tail:∀ (w r:List Nat),(∀ c∈w,c≠10∧c≠13)→quoteQ false (w++r)=w++quoteQ false r
  | [],r,_=>rfl
  | c::w,r,h=>by
    obtain ⟨h1,h2⟩:=h c mS
    show quoteQ false (c::(w++r))=_
    rw [quoteQ,show (c==10)=false by simpa using h1,quote_tail w r fun x hx=>h x (mO hx)]
    rfl
theorem quote_row {w r:List Nat}(hw:PlainR w):quoteQ true (w++r)=stuff w++quoteQ false r:=by
  obtain ⟨h1,h2⟩:=hw
  cases w with
  | nil=>exact absurd rfl h1
  | cons c l =>
    have hc:=(h2 c mS).1
    show quoteQ true (c::(l++r))=_
    rw [quoteQ,show (c==10)=false by simpa using hc,quote_tail l r fun x hx=>h2 x (mO hx)]
    by_cases h46:c=46
    · subst h46
      rfl
    · have e:(c==46)=false:=by simpa using h46
      have es:stuff (c::l)=c::l:=by
        unfold stuff
        split
        · rename_i l' e'
          cases e'
          exact absurd rfl h46
        · rfl
      rw [es,Bool.true_and,e]
      rfl
theorem quote_mail:∀ {rows:List (List Nat)},(∀ w∈rows,PlainR w)→quoteQ true (mailFrom rows)=mailFrom (rows.map stuff)
  | [],_=>rfl
  | [w],hp=>by
    have:=quote_row (r:=[]) (hp w mS)
    rw [List.append_nil] at this
    show quoteQ true w=stuff w
    rw [this]
    show stuff w++[]=_
    rw [List.append_nil]
  | w::x::rows,hp=>by
    have ih:=quote_mail (rows:=x::rows) fun y hy=>hp y (mO hy)
    show quoteQ true (w++13::10::mailFrom (x::rows))=_
    rw [quote_row (hp w mS)]
    show stuff w++(13::10::quoteQ true (mailFrom (x::rows)))=_
    rw [ih]
    rfl
theorem stuff_plain {w:List Nat}(h:PlainR w):PlainR (stuff w):=by
  unfold stuff
  split
  · rename_i l
    refine ⟨by simp,fun c hc=>?_⟩
    rcases mQ hc with rfl | hc
    · decide
    · exact h.2 c hc
  · exact h
theorem sep_eol (k:Nat):Eol (sepS k).cps.toList:=by
  unfold sepS Eol
  split
  · exact .inl rfl
  · split
    · exact .inr (.inl rfl)
    · exact .inr (.inr rfl)
theorem glue_ET {k:Nat}{x y:Tx}{r1 r2:List (List Nat)}(h1:ET r1 x.2)(h2:ET r2 y.2):(glue k x y).2=mailFrom ((r1++r2).map stuff)∧ET ((r1++r2).map stuff) (glue k x y).2:=by
  have ha:=h1.app (sep_eol k) h2
  have e:(glue k x y).2=mailFrom ((r1++r2).map stuff):=by
    show quoteQ true (normN false (jn k x y).cps.toList)=_
    unfold jn
    rw [cps_append,cps_append,lS_list,lS_list,norm_ET ha,quote_mail ha.plain]
  refine ⟨e,?_⟩
  rw [e]
  refine mail_ET ?_ ?_
  · intro z
    exact ha.ne (List.map_eq_nil_iff.mp z)
  · intro w hw
    obtain ⟨u,hu,rfl⟩:=List.mem_map.mp hw
    exact stuff_plain (ha.plain u hu)
noncomputable abbrev Ab:=Nat×List (Nat×Nat)
noncomputable def bump (l:List (Nat×Nat)):List (Nat×Nat):=l.map fun p=>(p.1+1,p.2)
noncomputable def glueA (x y:Ab):Ab:=(x.1+y.1,bump (x.2++y.2))
noncomputable def takeA (p q:List Ab):Ab×List Ab×List Ab:=match p,q with
  | [],[]=>((0,[]),[],[])
  | [],y::q=>(y,[],q)
  | x::p,[]=>(x,p,[])
  | x::p,y::q=>if y.1<x.1 then (y,x::p,q) else (x,p,y::q)
noncomputable def turnA (pq:List Ab×List Ab):List Ab×List Ab:=((takeA (takeA pq.1 pq.2).2.1 (takeA pq.1 pq.2).2.2).2.1,(takeA (takeA pq.1 pq.2).2.1 (takeA pq.1 pq.2).2.2).2.2++[glueA (takeA pq.1 pq.2).1 (takeA (takeA pq.1 pq.2).2.1 (takeA pq.1 pq.2).2.2).1])
noncomputable def lastA (p:List Ab):Ab:=glueA (takeA (turnA (turnA (turnA (turnA (p,[]))))).1 (turnA (turnA (turnA (turnA (p,[]))))).2).1 (takeA (takeA (turnA (turnA (turnA (turnA (p,[]))))).1 (turnA (turnA (turnA (turnA (p,[]))))).2).2.1 (takeA (turnA (turnA (turnA (turnA (p,[]))))).1 (turnA (turnA (turnA (turnA (p,[]))))).2).2.2).1
theorem takeA_lt {x y:Ab}{p q:List Ab}(h:y.1<x.1):takeA (x::p) (y::q)=(y,x::p,q):=if_pos h
theorem takeA_ge {x y:Ab}{p q:List Ab}(h:¬ y.1<x.1):takeA (x::p) (y::q)=(x,p,y::q):=if_neg h
theorem tL (x y:Ab){p q:List Ab}(h:y.1<x.1):takeA (x::p) (y::q)=(y,x::p,q):=if_pos h
theorem tG (x y:Ab){p q:List Ab}(h:¬ y.1<x.1):takeA (x::p) (y::q)=(x,p,y::q):=if_neg h
theorem tP {x:Ab}{p:List Ab}:takeA (x::p) []=(x,p,[]):=rfl
theorem tQ {y:Ab}{q:List Ab}:takeA [] (y::q)=(y,[],q):=rfl
theorem tU {p q p1 q1 p2 q2:List Ab}{x y:Ab}(h1:takeA p q=(x,p1,q1))(h2:takeA p1 q1=(y,p2,q2)):turnA (p,q)=(p2,q2++[glueA x y]):=by
  unfold turnA
  dsimp only
  rw [h1]
  dsimp only
  rw [h2]
theorem lO {P p1 q1 p2 q2 p3 q3 p4 q4 p5 q5 p6 q6:List Ab}{x y:Ab}(e1:turnA (P,[])=(p1,q1))(e2:turnA (p1,q1)=(p2,q2))(e3:turnA (p2,q2)=(p3,q3))(e4:turnA (p3,q3)=(p4,q4))(e5:takeA p4 q4=(x,p5,q5))(e6:takeA p5 q5=(y,p6,q6)):lastA P=glueA x y:=by
  unfold lastA
  rw [e1,e2,e3,e4]
  dsimp only
  rw [e5]
  dsimp only
  rw [e6]
noncomputable def costL (w:Nat→Nat)(l:List (Nat×Nat)):Nat:=match l with
  | []=>0
  | p::l=>(p.1-1)*w p.2+costL w l
noncomputable def lv (w:Nat→Nat)(j:Nat):Ab:=(w j,[(1,j)])
noncomputable def lvs (w:Nat→Nat):List Ab:=[lv w 0,lv w 1,lv w 2,lv w 3,lv w 4,lv w 5]
noncomputable def rowN (w:Nat→Nat):Nat→Nat
  | 0=>2*w 5+(2*w 4+(3*w 3+(3*w 2+(3*w 1+(3*w 0+0)))))
  | 1=>2*w 5+(2*w 4+(2*w 3+(3*w 2+(4*w 1+(4*w 0+0)))))
  | 2=>1*w 5+(3*w 4+(3*w 3+(3*w 2+(4*w 1+(4*w 0+0)))))
  | 3=>1*w 5+(2*w 4+(4*w 3+(4*w 2+(4*w 1+(4*w 0+0)))))
  | _=>1*w 5+(2*w 4+(3*w 3+(4*w 2+(5*w 1+(5*w 0+0)))))
structure HuffOk (w:Nat→Nat)(z:Ab):Prop where
  sum:z.1=w 0+w 1+w 2+w 3+w 4+w 5
  perm:(z.2.map (·.2)).Perm six0
  dep:∀ p∈z.2,2≤p.1∧p.1≤6
  mem:costL w z.2=rowN w 0∨costL w z.2=rowN w 1∨costL w z.2=rowN w 2∨costL w z.2=rowN w 3∨costL w z.2=rowN w 4
  le:∀ i,i<5→costL w z.2≤rowN w i
inductive Tr | l (j:Nat) | n (a b:Tr)
noncomputable def Tr.ab (w:Nat→Nat):Tr→Ab
  | .l j=>lv w j
  | .n a b=>glueA (a.ab w) (b.ab w)
noncomputable def Tr.vec:Tr→Nat→Int
  | .l j=>fun i=>if i=j then 1 else 0
  | .n a b=>fun i=>a.vec i+b.vec i
noncomputable def Tr.lvs:Tr→List (Nat×Nat)
  | .l j=>[(1,j)]
  | .n a b=>bump (a.lvs++b.lvs)
noncomputable def Tr.ok:Tr→Bool
  | .l j=>Nat.blt j 6
  | .n a b=>a.ok&&b.ok
noncomputable def ev (w:Nat→Nat)(v:Nat→Int):Int:=v 5*(w 5:Nat)+(v 4*(w 4:Nat)+(v 3*(w 3:Nat)+(v 2*(w 2:Nat)+(v 1*(w 1:Nat)+(v 0*(w 0:Nat)+0)))))
theorem ev_add (w:Nat→Nat)(u v:Nat→Int):ev w (fun i=>u i+v i)=ev w u+ev w v:=by
  unfold ev
  simp only [Int.add_mul]
  omega
theorem ev_sub (w:Nat→Nat)(u v:Nat→Int):ev w (fun i=>u i-v i)=ev w u-ev w v:=by
  unfold ev
  simp only [Int.sub_mul]
  omega
theorem ev_smul (w:Nat→Nat)(k:Int)(v:Nat→Int):ev w (fun i=>k*v i)=k*ev w v:=by
  unfold ev
  simp only [Int.mul_assoc,Int.mul_add,Int.mul_zero]
theorem ev_zero (w:Nat→Nat):ev w (fun _=>0)=0:=by
  unfold ev
  simp only [Int.zero_mul]
  rfl
theorem ev_one (w:Nat→Nat){j:Nat}(h:j<6):ev w (fun i=>if i=j then 1 else 0)=((w j:Nat):Int):=by
  match j,h with
  | 0,_=>simp [ev]
  | 1,_=>simp [ev]
  | 2,_=>simp [ev]
  | 3,_=>simp [ev]
  | 4,_=>simp [ev]
  | 5,_=>simp [ev]
theorem ev_congr (w:Nat→Nat){u v:Nat→Int}(h:((List.range 6).all fun i=>decide (u i=v i))=true):ev w u=ev w v:=by
  have k:∀ i,i<6→u i=v i:=fun i hi=>of_decide_eq_true (List.all_eq_true.mp h i (List.mem_range.mpr hi))
  unfold ev
  rw [k 0 (by decide),k 1 (by decide),k 2 (by decide),k 3 (by decide),k 4 (by decide),k 5 (by decide)]
theorem Tr.wt (w:Nat→Nat):∀ t:Tr,t.ok=true→(((t.ab w).1:Nat):Int)=ev w t.vec
  | .l j,h=>(ev_one w (Nat.le_of_ble_eq_true h)).symm
  | .n a b,h=>by
    have h:=Bool.and_eq_true_iff.mp h
    show (((a.ab w).1+(b.ab w).1:Nat):Int)=ev w (fun i=>a.vec i+b.vec i)
    rw [ev_add,← Tr.wt w a h.1,← Tr.wt w b h.2]
    rfl
theorem Tr.lvs_eq (w:Nat→Nat):∀ t:Tr,(t.ab w).2=t.lvs
  | .l _=>rfl
  | .n a b=>by
    show bump ((a.ab w).2++(b.ab w).2)=bump (a.lvs++b.lvs)
    rw [Tr.lvs_eq w a,Tr.lvs_eq w b]
noncomputable def cv:List (Nat×Nat)→Nat→Int
  | []=>fun _=>0
  | p::l=>fun i=>((p.1-1:Nat):Int)*(if i=p.2 then 1 else 0)+cv l i
theorem cv_eq (w:Nat→Nat):∀ l:List (Nat×Nat),(l.all fun p=>Nat.blt p.2 6)=true→((costL w l:Nat):Int)=ev w (cv l)
  | [],_=>(ev_zero w).symm
  | p::l,h=>by
    rw [List.all_cons,Bool.and_eq_true] at h
    show (((p.1-1)*w p.2+costL w l:Nat):Int)=ev w (fun i=>((p.1-1:Nat):Int)*(if i=p.2 then 1 else 0)+cv l i)
    rw [ev_add w (fun i=>((p.1-1:Nat):Int)*(if i=p.2 then 1 else 0)),ev_smul,ev_one w (Nat.le_of_ble_eq_true h.1),← cv_eq w l h.2]
    push_cast
    rfl
noncomputable def rowV:Nat→List Int
  | 0=>[3,3,3,3,2,2]
  | 1=>[4,4,3,2,2,2]
  | 2=>[4,4,3,3,3,1]
  | 3=>[4,4,4,4,2,1]
  | _=>[5,5,4,3,2,1]
noncomputable def rowF (i:Nat):Nat→Int:=fun j=>(rowV i).getD j 0
theorem rowF_eq (w:Nat→Nat):∀ i,i<5→((rowN w i:Nat):Int)=ev w (rowF i)
  | 0,_=>by show ((2*w 5+(2*w 4+(3*w 3+(3*w 2+(3*w 1+(3*w 0+0))))):Nat):Int)=2*(w 5:Nat)+(2*(w 4:Nat)+(3*(w 3:Nat)+(3*(w 2:Nat)+(3*(w 1:Nat)+(3*(w 0:Nat)+0)))));push_cast;rfl
  | 1,_=>by show ((2*w 5+(2*w 4+(2*w 3+(3*w 2+(4*w 1+(4*w 0+0))))):Nat):Int)=2*(w 5:Nat)+(2*(w 4:Nat)+(2*(w 3:Nat)+(3*(w 2:Nat)+(4*(w 1:Nat)+(4*(w 0:Nat)+0)))));push_cast;rfl
  | 2,_=>by show ((1*w 5+(3*w 4+(3*w 3+(3*w 2+(4*w 1+(4*w 0+0))))):Nat):Int)=1*(w 5:Nat)+(3*(w 4:Nat)+(3*(w 3:Nat)+(3*(w 2:Nat)+(4*(w 1:Nat)+(4*(w 0:Nat)+0)))));push_cast;rfl
  | 3,_=>by show ((1*w 5+(2*w 4+(4*w 3+(4*w 2+(4*w 1+(4*w 0+0))))):Nat):Int)=1*(w 5:Nat)+(2*(w 4:Nat)+(4*(w 3:Nat)+(4*(w 2:Nat)+(4*(w 1:Nat)+(4*(w 0:Nat)+0)))));push_cast;rfl
  | 4,_=>by show ((1*w 5+(2*w 4+(3*w 3+(4*w 2+(5*w 1+(5*w 0+0))))):Nat):Int)=1*(w 5:Nat)+(2*(w 4:Nat)+(3*(w 3:Nat)+(4*(w 2:Nat)+(5*(w 1:Nat)+(5*(w 0:Nat)+0)))));push_cast;rfl
def Pos (w:Nat→Nat)(H:List (Nat→Int)):Prop:=∀ v∈H,0≤ev w v
noncomputable def comb:List Nat→List (Nat→Int)→Nat→Int
  | c::cs,h::hs=>fun i=>(c:Int)*h i+comb cs hs i
  | _,_=>fun _=>0
theorem comb_pos {w:Nat→Nat}:∀ (cs:List Nat) {H:List (Nat→Int)},Pos w H→0≤ev w (comb cs H)
  | [],_,_=>by rw [show comb [] _=fun _=>0 from rfl,ev_zero];exact Int.le_refl 0
  | c::cs,[],_=>by rw [show comb (c::cs) []=fun _=>0 from rfl,ev_zero];exact Int.le_refl 0
  | c::cs,h::hs,hp=>by
    rw [show comb (c::cs) (h::hs)=fun i=>(c:Int)*h i+comb cs hs i from rfl,ev_add w (fun i=>(c:Int)*h i),ev_smul]
    exact Int.add_nonneg (Int.mul_nonneg (Int.natCast_nonneg c) (hp h mS)) (comb_pos cs fun v hv=>hp v (mO hv))
theorem cert_le {w:Nat→Nat}{H:List (Nat→Int)}(hp:Pos w H){m:Nat}{cs:List Nat}{u v:Nat→Int}(h:((List.range 6).all fun i=>decide (((m+1:Nat):Int)*(v i-u i)=comb cs H i))=true):ev w u≤ev w v:=by
  have k:=ev_congr w h
  rw [ev_smul,ev_sub] at k
  have p:=comb_pos cs hp
  rw [← k] at p
  have:=Int.nonneg_of_mul_nonneg_right p (by omega)
  omega
theorem Pos.lt {w:Nat→Nat}{H:List (Nat→Int)}(hp:Pos w H)(x y:Tr)(h:(y.ab w).1<(x.ab w).1)(hx:x.ok=true)(hy:y.ok=true):Pos w ((fun i=>x.vec i-y.vec i)::H):=fun v hv=>by
  rcases mQ hv with rfl | hv
  · rw [ev_sub,← x.wt w hx,← y.wt w hy];omega
  · exact hp v hv
theorem Pos.ge {w:Nat→Nat}{H:List (Nat→Int)}(hp:Pos w H)(x y:Tr)(h:¬ (y.ab w).1<(x.ab w).1)(hx:x.ok=true)(hy:y.ok=true):Pos w ((fun i=>y.vec i-x.vec i)::H):=fun v hv=>by
  rcases mQ hv with rfl | hv
  · rw [ev_sub,← x.wt w hx,← y.wt w hy];omega
  · exact hp v hv
noncomputable def leC (H:List (Nat→Int))(l:List (Nat×Nat))(i:Nat)(c:Nat×List Nat):Bool:=(List.range 6).all fun j=>decide (((c.1+1:Nat):Int)*(rowF i j-cv l j)=comb c.2 H j)
theorem huff_of {w:Nat→Nat}(t:Tr){H:List (Nat→Int)}(hp:Pos w H)(k:Nat)(c0 c1 c2 c3 c4:Nat×List Nat)(hk:(Nat.blt k 5&&t.ok&&(t.lvs.map (·.2)).isPerm six0&&(t.lvs.all fun p=>Nat.ble 2 p.1&&Nat.ble p.1 6)&&(t.lvs.all fun p=>Nat.blt p.2 6)&&((List.range 6).all fun j=>decide (cv t.lvs j=rowF k j))&&((List.range 6).all fun j=>decide (t.vec j=1))&&leC H t.lvs 0 c0&&leC H t.lvs 1 c1&&leC H t.lvs 2 c2&&leC H t.lvs 3 c3&&leC H t.lvs 4 c4)=true):HuffOk w (t.ab w):=by
  simp only [Bool.and_eq_true] at hk
  obtain ⟨⟨⟨⟨⟨⟨⟨⟨⟨⟨⟨k1,k2⟩,k3⟩,k4⟩,k5⟩,k6⟩,k7⟩,h0⟩,h1⟩,h2⟩,h3⟩,h4⟩:=hk
  have e:=cv_eq w t.lvs k5
  have hle:∀ i,i<5→ev w (cv t.lvs)≤ev w (rowF i):=fun i hi=>by
    match i,hi with
    | 0,_=>exact cert_le hp h0
    | 1,_=>exact cert_le hp h1
    | 2,_=>exact cert_le hp h2
    | 3,_=>exact cert_le hp h3
    | 4,_=>exact cert_le hp h4
  refine ⟨?_,?_,?_,?_,?_⟩
  · have q:=t.wt w k2
    rw [ev_congr w (u:=t.vec) (v:=fun _=>1) k7] at q
    unfold ev at q
    dsimp only at q
    simp only [Int.one_mul] at q
    omega
  · rw [t.lvs_eq w];exact List.isPerm_iff.mp k3
  · intro p hm
    rw [t.lvs_eq w] at hm
    have:=List.all_eq_true.mp k4 p hm
    rw [Bool.and_eq_true] at this
    exact ⟨Nat.le_of_ble_eq_true this.1,Nat.le_of_ble_eq_true this.2⟩
  · rw [t.lvs_eq w]
    have q:((costL w t.lvs:Nat):Int)=((rowN w k:Nat):Int):=by rw [e,ev_congr w k6,rowF_eq w k (Nat.le_of_ble_eq_true k1)]
    have q:=Int.ofNat.inj q
    match k,Nat.le_of_ble_eq_true k1 with
    | 0,_=>exact .inl q
    | 1,_=>exact .inr (.inl q)
    | 2,_=>exact .inr (.inr (.inl q))
    | 3,_=>exact .inr (.inr (.inr (.inl q)))
    | 4,_=>exact .inr (.inr (.inr (.inr q)))
  · intro i hi
    rw [t.lvs_eq w]
    have:=hle i hi
    rw [← e,← rowF_eq w i hi] at this
    exact Int.ofNat_le.mp this
noncomputable def H0:List (Nat→Int):=[fun i=>[1,0,0,0,0,0].getD i 0,fun i=>[-1,1,0,0,0,0].getD i 0,fun i=>[0,-1,1,0,0,0].getD i 0,fun i=>[0,0,-1,1,0,0].getD i 0,fun i=>[0,0,0,-1,1,0].getD i 0,fun i=>[0,0,0,0,-1,1].getD i 0]
theorem pos0 {w:Nat→Nat}(h01:w 0≤w 1)(h12:w 1≤w 2)(h23:w 2≤w 3)(h34:w 3≤w 4)(h45:w 4≤w 5):Pos w H0:=fun v hv=>by
  simp only [H0,List.mem_cons,List.not_mem_nil,or_false] at hv
  rcases hv with rfl | rfl | rfl | rfl | rfl | rfl
  all_goals (simp [ev];try omega)
theorem huff {w:Nat→Nat}(h01:w 0≤w 1)(h12:w 1≤w 2)(h23:w 2≤w 3)(h34:w 3≤w 4)(h45:w 4≤w 5):HuffOk w (lastA (lvs w)):=by
  unfold lvs
  let G:=Tr.n
  let a:=Tr.l 0
  let b:=Tr.l 1
  let c:=Tr.l 2
  let d:=Tr.l 3
  let e:=Tr.l 4
  let f:=Tr.l 5
  have H0:=pos0 h01 h12 h23 h34 h45
  show HuffOk w (lastA [Tr.ab w a,Tr.ab w b,Tr.ab w c,Tr.ab w d,Tr.ab w e,Tr.ab w f])
  by_cases h1:(Tr.ab w (G a b)).1<(Tr.ab w c).1
  · have H1:=H0.lt c (G a b) h1 rfl rfl
    by_cases h2:(Tr.ab w (G (G a b) c)).1<(Tr.ab w d).1
    · have H2:=H1.lt d (G (G a b) c) h2 rfl rfl
      by_cases h3:(Tr.ab w (G (G (G a b) c) d)).1<(Tr.ab w e).1
      · have H3:=H2.lt e (G (G (G a b) c) d) h3 rfl rfl
        by_cases h4:(Tr.ab w (G (G (G (G a b) c) d) e)).1<(Tr.ab w f).1
        · have H4:=H3.lt f (G (G (G (G a b) c) d) e) h4 rfl rfl
          rw [lO (tU tP tP) (tU (tL _ _ h1) tP) (tU (tL _ _ h2) tP) (tU (tL _ _ h3) tP) (tL _ _ h4) tP]
          exact huff_of (G (G (G (G (G a b) c) d) e) f) H4 4 (0,[1,1,2,3,10,5]) (0,[1,1,1,2,8,4]) (0,[0,1,1,1,4,2]) (0,[0,0,1,1,2,1]) (0,[]) (by kernel_rfl)
        · have H4:=H3.ge f (G (G (G (G a b) c) d) e) h4 rfl rfl
          rw [lO (tU tP tP) (tU (tL _ _ h1) tP) (tU (tL _ _ h2) tP) (tU (tL _ _ h3) tP) (tG _ _ h4) tQ]
          exact huff_of (G f (G (G (G (G a b) c) d) e)) H4 4 (3,[1,4,3,2,0,0,0,0,0,5]) (0,[0,1,0,0,0,0,0,0,0,1]) (0,[0,1,1,1,4,2]) (0,[0,0,1,1,2,1]) (0,[]) (by kernel_rfl)
      · have H3:=H2.ge e (G (G (G a b) c) d) h3 rfl rfl
        by_cases h4:(Tr.ab w (G (G (G a b) c) d)).1<(Tr.ab w f).1
        · have H4:=H3.lt f (G (G (G a b) c) d) h4 rfl rfl
          by_cases h5:(Tr.ab w (G e (G (G (G a b) c) d))).1<(Tr.ab w f).1
          · have H5:=H4.lt f (G e (G (G (G a b) c) d)) h5 rfl rfl
            rw [lO (tU tP tP) (tU (tL _ _ h1) tP) (tU (tL _ _ h2) tP) (tU (tG _ _ h3) (tL _ _ h4)) (tL _ _ h5) tP]
            exact huff_of (G (G e (G (G (G a b) c) d)) f) H5 4 (0,[0,1,0,1,1,2,1]) (0,[0,1]) (0,[0,0,0,1,0,0,0,0,0,1]) (0,[0,0,0,1,1,2,1]) (0,[]) (by kernel_rfl)
          · have H5:=H4.ge f (G e (G (G (G a b) c) d)) h5 rfl rfl
            rw [lO (tU tP tP) (tU (tL _ _ h1) tP) (tU (tL _ _ h2) tP) (tU (tG _ _ h3) (tL _ _ h4)) (tG _ _ h5) tQ]
            exact huff_of (G f (G e (G (G (G a b) c) d))) H5 4 (3,[1,5,1,3,2]) (0,[0,1]) (0,[0,0,0,1,0,0,0,0,0,1]) (3,[1,1,1,3,2]) (0,[]) (by kernel_rfl)
        · have H4:=H3.ge f (G (G (G a b) c) d) h4 rfl rfl
          rw [lO (tU tP tP) (tU (tL _ _ h1) tP) (tU (tL _ _ h2) tP) (tU (tG _ _ h3) (tG _ _ h4)) tQ tQ]
          exact huff_of (G (G (G (G a b) c) d) (G e f)) H4 1 (0,[0,0,1,1,2,1]) (0,[]) (0,[1,0,1,0,0,0,0,0,1]) (0,[1,0,1,1,2,1]) (0,[1]) (by kernel_rfl)
    · have H2:=H1.ge d (G (G a b) c) h2 rfl rfl
      by_cases h3:(Tr.ab w (G (G a b) c)).1<(Tr.ab w e).1
      · have H3:=H2.lt e (G (G a b) c) h3 rfl rfl
        by_cases h4:(Tr.ab w (G d (G (G a b) c))).1<(Tr.ab w e).1
        · have H4:=H3.lt e (G d (G (G a b) c)) h4 rfl rfl
          by_cases h5:(Tr.ab w (G (G d (G (G a b) c)) e)).1<(Tr.ab w f).1
          · have H5:=H4.lt f (G (G d (G (G a b) c)) e) h5 rfl rfl
            rw [lO (tU tP tP) (tU (tL _ _ h1) tP) (tU (tG _ _ h2) (tL _ _ h3)) (tU (tL _ _ h4) tP) (tL _ _ h5) tP]
            exact huff_of (G (G (G d (G (G a b) c)) e) f) H5 4 (0,[1,0,1,2,2,0,0,0,3]) (0,[1,0,1,0,1,4,2]) (0,[0,0,1]) (0,[0,0,0,0,1,0,0,0,1]) (0,[]) (by kernel_rfl)
          · have H5:=H4.ge f (G (G d (G (G a b) c)) e) h5 rfl rfl
            rw [lO (tU tP tP) (tU (tL _ _ h1) tP) (tU (tG _ _ h2) (tL _ _ h3)) (tU (tL _ _ h4) tP) (tG _ _ h5) tQ]
            exact huff_of (G f (G (G d (G (G a b) c)) e)) H5 4 (0,[0,1,0,0,1,0,0,0,1,0,1]) (0,[0,1,0,0,0,0,0,0,0,0,1]) (0,[0,0,1]) (0,[0,0,0,0,1,0,0,0,1]) (0,[]) (by kernel_rfl)
        · have H4:=H3.ge e (G d (G (G a b) c)) h4 rfl rfl
          by_cases h5:(Tr.ab w (G d (G (G a b) c))).1<(Tr.ab w f).1
          · have H5:=H4.lt f (G d (G (G a b) c)) h5 rfl rfl
            by_cases h6:(Tr.ab w (G e (G d (G (G a b) c)))).1<(Tr.ab w f).1
            · have H6:=H5.lt f (G e (G d (G (G a b) c))) h6 rfl rfl
              rw [lO (tU tP tP) (tU (tL _ _ h1) tP) (tU (tG _ _ h2) (tL _ _ h3)) (tU (tG _ _ h4) (tL _ _ h5)) (tL _ _ h6) tP]
              exact huff_of (G (G e (G d (G (G a b) c))) f) H6 4 (1,[1,1,2,3,0,1]) (0,[0,1]) (0,[0,0,0,1]) (0,[0,0,0,0,0,1,0,0,0,1]) (0,[]) (by kernel_rfl)
            · have H6:=H5.ge f (G e (G d (G (G a b) c))) h6 rfl rfl
              rw [lO (tU tP tP) (tU (tL _ _ h1) tP) (tU (tG _ _ h2) (tL _ _ h3)) (tU (tG _ _ h4) (tL _ _ h5)) (tG _ _ h6) tQ]
              exact huff_of (G f (G e (G d (G (G a b) c)))) H6 4 (0,[0,1,0,0,0,1,0,0,0,1]) (0,[0,1]) (0,[0,0,0,1]) (0,[0,0,0,0,0,1,0,0,0,1]) (0,[]) (by kernel_rfl)
          · have H5:=H4.ge f (G d (G (G a b) c)) h5 rfl rfl
            rw [lO (tU tP tP) (tU (tL _ _ h1) tP) (tU (tG _ _ h2) (tL _ _ h3)) (tU (tG _ _ h4) (tG _ _ h5)) tQ tQ]
            exact huff_of (G (G d (G (G a b) c)) (G e f)) H5 1 (0,[0,0,0,0,1,0,0,0,1]) (0,[]) (0,[1,0,1]) (0,[1,0,0,0,1,0,0,0,1]) (0,[1]) (by kernel_rfl)
      · have H3:=H2.ge e (G (G a b) c) h3 rfl rfl
        by_cases h4:(Tr.ab w (G (G a b) c)).1<(Tr.ab w f).1
        · have H4:=H3.lt f (G (G a b) c) h4 rfl rfl
          by_cases h5:(Tr.ab w (G d e)).1<(Tr.ab w f).1
          · have H5:=H4.lt f (G d e) h5 rfl rfl
            by_cases h6:(Tr.ab w (G (G (G a b) c) (G d e))).1<(Tr.ab w f).1
            · have H6:=H5.lt f (G (G (G a b) c) (G d e)) h6 rfl rfl
              rw [lO (tU tP tP) (tU (tL _ _ h1) tP) (tU (tG _ _ h2) (tG _ _ h3)) (tU (tL _ _ h4) (tL _ _ h5)) (tL _ _ h6) tP]
              exact huff_of (G (G (G (G a b) c) (G d e)) f) H6 2 (2,[1,0,2,2,0,2,0,0,0,1]) (0,[0,1]) (0,[]) (0,[0,0,0,1,0,1,0,0,0,1]) (0,[0,0,0,1]) (by kernel_rfl)
            · have H6:=H5.ge f (G (G (G a b) c) (G d e)) h6 rfl rfl
              rw [lO (tU tP tP) (tU (tL _ _ h1) tP) (tU (tG _ _ h2) (tG _ _ h3)) (tU (tL _ _ h4) (tL _ _ h5)) (tG _ _ h6) tQ]
              exact huff_of (G f (G (G (G a b) c) (G d e))) H6 2 (0,[0,1,0,0,0,1,0,0,0,1]) (0,[0,1]) (0,[]) (0,[0,0,0,1,0,1,0,0,0,1]) (0,[0,0,0,1]) (by kernel_rfl)
          · have H5:=H4.ge f (G d e) h5 rfl rfl
            rw [lO (tU tP tP) (tU (tL _ _ h1) tP) (tU (tG _ _ h2) (tG _ _ h3)) (tU (tL _ _ h4) (tG _ _ h5)) tQ tQ]
            exact huff_of (G (G d e) (G (G (G a b) c) f)) H5 1 (0,[0,0,0,0,1,0,0,0,1]) (0,[]) (0,[1]) (0,[1,0,1,0,1,0,0,0,1]) (0,[1,0,1]) (by kernel_rfl)
        · have H4:=H3.ge f (G (G a b) c) h4 rfl rfl
          rw [lO (tU tP tP) (tU (tL _ _ h1) tP) (tU (tG _ _ h2) (tG _ _ h3)) (tU (tG _ _ h4) tQ) tQ tQ]
          exact huff_of (G (G d e) (G f (G (G a b) c))) H4 1 (0,[0,0,0,1,0,0,0,1]) (0,[]) (0,[1,0,0,1,0,0,0,2,1]) (0,[1,0,1,2,0,0,0,3]) (0,[1,0,1,1,0,0,0,2]) (by kernel_rfl)
  · have H1:=H0.ge c (G a b) h1 rfl rfl
    by_cases h2:(Tr.ab w (G a b)).1<(Tr.ab w d).1
    · have H2:=H1.lt d (G a b) h2 rfl rfl
      by_cases h3:(Tr.ab w (G c (G a b))).1<(Tr.ab w d).1
      · have H3:=H2.lt d (G c (G a b)) h3 rfl rfl
        by_cases h4:(Tr.ab w (G (G c (G a b)) d)).1<(Tr.ab w e).1
        · have H4:=H3.lt e (G (G c (G a b)) d) h4 rfl rfl
          by_cases h5:(Tr.ab w (G (G (G c (G a b)) d) e)).1<(Tr.ab w f).1
          · have H5:=H4.lt f (G (G (G c (G a b)) d) e) h5 rfl rfl
            rw [lO (tU tP tP) (tU (tG _ _ h1) (tL _ _ h2)) (tU (tL _ _ h3) tP) (tU (tL _ _ h4) tP) (tL _ _ h5) tP]
            exact huff_of (G (G (G (G c (G a b)) d) e) f) H5 4 (0,[1,1,0,2,5,0,3,6]) (0,[1,1,1,0,0,6,4,2]) (0,[0,1,0,1,0,2,1]) (0,[0,0,0,1]) (0,[]) (by kernel_rfl)
          · have H5:=H4.ge f (G (G (G c (G a b)) d) e) h5 rfl rfl
            rw [lO (tU tP tP) (tU (tG _ _ h1) (tL _ _ h2)) (tU (tL _ _ h3) tP) (tU (tL _ _ h4) tP) (tG _ _ h5) tQ]
            exact huff_of (G f (G (G (G c (G a b)) d) e)) H5 4 (0,[0,1,0,1,0,0,0,0,0,0,1]) (0,[0,1,0,0,0,0,0,0,0,0,1]) (0,[0,1,0,1,0,2,1]) (0,[0,0,0,1]) (0,[]) (by kernel_rfl)
        · have H4:=H3.ge e (G (G c (G a b)) d) h4 rfl rfl
          by_cases h5:(Tr.ab w (G (G c (G a b)) d)).1<(Tr.ab w f).1
          · have H5:=H4.lt f (G (G c (G a b)) d) h5 rfl rfl
            by_cases h6:(Tr.ab w (G e (G (G c (G a b)) d))).1<(Tr.ab w f).1
            · have H6:=H5.lt f (G e (G (G c (G a b)) d)) h6 rfl rfl
              rw [lO (tU tP tP) (tU (tG _ _ h1) (tL _ _ h2)) (tU (tL _ _ h3) tP) (tU (tG _ _ h4) (tL _ _ h5)) (tL _ _ h6) tP]
              exact huff_of (G (G e (G (G c (G a b)) d)) f) H6 4 (0,[0,1,0,0,1]) (0,[0,1]) (0,[0,0,0,1,0,0,0,0,0,0,1]) (0,[0,0,0,0,1]) (0,[]) (by kernel_rfl)
            · have H6:=H5.ge f (G e (G (G c (G a b)) d)) h6 rfl rfl
              rw [lO (tU tP tP) (tU (tG _ _ h1) (tL _ _ h2)) (tU (tL _ _ h3) tP) (tU (tG _ _ h4) (tL _ _ h5)) (tG _ _ h6) tQ]
              exact huff_of (G f (G e (G (G c (G a b)) d))) H6 4 (0,[0,1,0,0,1]) (0,[0,1]) (0,[0,0,0,1,0,0,0,0,0,0,1]) (0,[0,0,0,0,1]) (0,[]) (by kernel_rfl)
          · have H5:=H4.ge f (G (G c (G a b)) d) h5 rfl rfl
            rw [lO (tU tP tP) (tU (tG _ _ h1) (tL _ _ h2)) (tU (tL _ _ h3) tP) (tU (tG _ _ h4) (tG _ _ h5)) tQ tQ]
            exact huff_of (G (G (G c (G a b)) d) (G e f)) H5 1 (0,[0,0,0,1]) (0,[]) (0,[1,0,1,0,0,0,0,0,0,1]) (0,[1,0,0,1]) (0,[1]) (by kernel_rfl)
      · have H3:=H2.ge d (G c (G a b)) h3 rfl rfl
        by_cases h4:(Tr.ab w (G c (G a b))).1<(Tr.ab w e).1
        · have H4:=H3.lt e (G c (G a b)) h4 rfl rfl
          by_cases h5:(Tr.ab w (G d (G c (G a b)))).1<(Tr.ab w e).1
          · have H5:=H4.lt e (G d (G c (G a b))) h5 rfl rfl
            by_cases h6:(Tr.ab w (G (G d (G c (G a b))) e)).1<(Tr.ab w f).1
            · have H6:=H5.lt f (G (G d (G c (G a b))) e) h6 rfl rfl
              rw [lO (tU tP tP) (tU (tG _ _ h1) (tL _ _ h2)) (tU (tG _ _ h3) (tL _ _ h4)) (tU (tL _ _ h5) tP) (tL _ _ h6) tP]
              exact huff_of (G (G (G d (G c (G a b))) e) f) H6 4 (0,[1,0,1,2,3,1]) (0,[1,0,1,2,2,1]) (0,[0,0,1]) (0,[0,0,0,0,1]) (0,[]) (by kernel_rfl)
            · have H6:=H5.ge f (G (G d (G c (G a b))) e) h6 rfl rfl
              rw [lO (tU tP tP) (tU (tG _ _ h1) (tL _ _ h2)) (tU (tG _ _ h3) (tL _ _ h4)) (tU (tL _ _ h5) tP) (tG _ _ h6) tQ]
              exact huff_of (G f (G (G d (G c (G a b))) e)) H6 4 (0,[0,1,0,0,1,0,0,0,0,0,0,1]) (0,[0,1,0,0,0,0,0,0,0,0,0,1]) (0,[0,0,1]) (0,[0,0,0,0,1]) (0,[]) (by kernel_rfl)
          · have H5:=H4.ge e (G d (G c (G a b))) h5 rfl rfl
            by_cases h6:(Tr.ab w (G d (G c (G a b)))).1<(Tr.ab w f).1
            · have H6:=H5.lt f (G d (G c (G a b))) h6 rfl rfl
              by_cases h7:(Tr.ab w (G e (G d (G c (G a b))))).1<(Tr.ab w f).1
              · have H7:=H6.lt f (G e (G d (G c (G a b)))) h7 rfl rfl
                rw [lO (tU tP tP) (tU (tG _ _ h1) (tL _ _ h2)) (tU (tG _ _ h3) (tL _ _ h4)) (tU (tG _ _ h5) (tL _ _ h6)) (tL _ _ h7) tP]
                exact huff_of (G (G e (G d (G c (G a b)))) f) H7 4 (0,[0,1,0,0,0,1]) (0,[0,1]) (0,[0,0,0,1]) (0,[0,0,0,0,0,1]) (0,[]) (by kernel_rfl)
              · have H7:=H6.ge f (G e (G d (G c (G a b)))) h7 rfl rfl
                rw [lO (tU tP tP) (tU (tG _ _ h1) (tL _ _ h2)) (tU (tG _ _ h3) (tL _ _ h4)) (tU (tG _ _ h5) (tL _ _ h6)) (tG _ _ h7) tQ]
                exact huff_of (G f (G e (G d (G c (G a b))))) H7 4 (0,[0,1,0,0,0,1]) (0,[0,1]) (0,[0,0,0,1]) (0,[0,0,0,0,0,1]) (0,[]) (by kernel_rfl)
            · have H6:=H5.ge f (G d (G c (G a b))) h6 rfl rfl
              rw [lO (tU tP tP) (tU (tG _ _ h1) (tL _ _ h2)) (tU (tG _ _ h3) (tL _ _ h4)) (tU (tG _ _ h5) (tG _ _ h6)) tQ tQ]
              exact huff_of (G (G d (G c (G a b))) (G e f)) H6 1 (0,[0,0,0,0,1]) (0,[]) (0,[1,0,1]) (0,[1,0,0,0,1]) (0,[1]) (by kernel_rfl)
        · have H4:=H3.ge e (G c (G a b)) h4 rfl rfl
          by_cases h5:(Tr.ab w (G c (G a b))).1<(Tr.ab w f).1
          · have H5:=H4.lt f (G c (G a b)) h5 rfl rfl
            by_cases h6:(Tr.ab w (G d e)).1<(Tr.ab w f).1
            · have H6:=H5.lt f (G d e) h6 rfl rfl
              by_cases h7:(Tr.ab w (G (G c (G a b)) (G d e))).1<(Tr.ab w f).1
              · have H7:=H6.lt f (G (G c (G a b)) (G d e)) h7 rfl rfl
                rw [lO (tU tP tP) (tU (tG _ _ h1) (tL _ _ h2)) (tU (tG _ _ h3) (tG _ _ h4)) (tU (tL _ _ h5) (tL _ _ h6)) (tL _ _ h7) tP]
                exact huff_of (G (G (G c (G a b)) (G d e)) f) H7 2 (0,[0,1,0,0,0,1]) (0,[0,1]) (0,[]) (0,[0,0,0,1,0,1]) (0,[0,0,0,1]) (by kernel_rfl)
              · have H7:=H6.ge f (G (G c (G a b)) (G d e)) h7 rfl rfl
                rw [lO (tU tP tP) (tU (tG _ _ h1) (tL _ _ h2)) (tU (tG _ _ h3) (tG _ _ h4)) (tU (tL _ _ h5) (tL _ _ h6)) (tG _ _ h7) tQ]
                exact huff_of (G f (G (G c (G a b)) (G d e))) H7 2 (0,[0,1,0,0,0,1]) (0,[0,1]) (0,[]) (0,[0,0,0,1,0,1]) (0,[0,0,0,1]) (by kernel_rfl)
            · have H6:=H5.ge f (G d e) h6 rfl rfl
              rw [lO (tU tP tP) (tU (tG _ _ h1) (tL _ _ h2)) (tU (tG _ _ h3) (tG _ _ h4)) (tU (tL _ _ h5) (tG _ _ h6)) tQ tQ]
              exact huff_of (G (G d e) (G (G c (G a b)) f)) H6 1 (0,[0,0,0,0,1]) (0,[]) (0,[1]) (0,[1,0,1,0,1]) (0,[1,0,1]) (by kernel_rfl)
          · have H5:=H4.ge f (G c (G a b)) h5 rfl rfl
            rw [lO (tU tP tP) (tU (tG _ _ h1) (tL _ _ h2)) (tU (tG _ _ h3) (tG _ _ h4)) (tU (tG _ _ h5) tQ) tQ tQ]
            exact huff_of (G (G d e) (G f (G c (G a b)))) H5 1 (0,[0,0,0,1]) (0,[]) (0,[1,0,0,2,1,0,0,0,0,1]) (0,[1,0,1,3,1]) (0,[1,0,1,2,1]) (by kernel_rfl)
    · have H2:=H1.ge d (G a b) h2 rfl rfl
      by_cases h3:(Tr.ab w (G a b)).1<(Tr.ab w e).1
      · have H3:=H2.lt e (G a b) h3 rfl rfl
        by_cases h4:(Tr.ab w (G c d)).1<(Tr.ab w e).1
        · have H4:=H3.lt e (G c d) h4 rfl rfl
          by_cases h5:(Tr.ab w (G (G a b) (G c d))).1<(Tr.ab w e).1
          · have H5:=H4.lt e (G (G a b) (G c d)) h5 rfl rfl
            by_cases h6:(Tr.ab w (G (G (G a b) (G c d)) e)).1<(Tr.ab w f).1
            · have H6:=H5.lt f (G (G (G a b) (G c d)) e) h6 rfl rfl
              rw [lO (tU tP tP) (tU (tG _ _ h1) (tG _ _ h2)) (tU (tL _ _ h3) (tL _ _ h4)) (tU (tL _ _ h5) tP) (tL _ _ h6) tP]
              exact huff_of (G (G (G (G a b) (G c d)) e) f) H6 3 (0,[1,0,0,1,0,0,2,1]) (0,[1,0,0,1,1,0,2,1]) (0,[0,0,1]) (0,[]) (0,[0,0,0,0,1]) (by kernel_rfl)
            · have H6:=H5.ge f (G (G (G a b) (G c d)) e) h6 rfl rfl
              rw [lO (tU tP tP) (tU (tG _ _ h1) (tG _ _ h2)) (tU (tL _ _ h3) (tL _ _ h4)) (tU (tL _ _ h5) tP) (tG _ _ h6) tQ]
              exact huff_of (G f (G (G (G a b) (G c d)) e)) H6 3 (0,[0,1,0,0,0,0,0,0,0,0,0,1]) (0,[0,1,0,0,1,0,0,0,0,0,0,1]) (0,[0,0,1]) (0,[]) (0,[0,0,0,0,1]) (by kernel_rfl)
          · have H5:=H4.ge e (G (G a b) (G c d)) h5 rfl rfl
            by_cases h6:(Tr.ab w (G (G a b) (G c d))).1<(Tr.ab w f).1
            · have H6:=H5.lt f (G (G a b) (G c d)) h6 rfl rfl
              by_cases h7:(Tr.ab w (G e (G (G a b) (G c d)))).1<(Tr.ab w f).1
              · have H7:=H6.lt f (G e (G (G a b) (G c d))) h7 rfl rfl
                rw [lO (tU tP tP) (tU (tG _ _ h1) (tG _ _ h2)) (tU (tL _ _ h3) (tL _ _ h4)) (tU (tG _ _ h5) (tL _ _ h6)) (tL _ _ h7) tP]
                exact huff_of (G (G e (G (G a b) (G c d))) f) H7 3 (0,[0,1]) (0,[0,1,0,0,0,1]) (0,[0,0,0,1]) (0,[]) (0,[0,0,0,0,0,1]) (by kernel_rfl)
              · have H7:=H6.ge f (G e (G (G a b) (G c d))) h7 rfl rfl
                rw [lO (tU tP tP) (tU (tG _ _ h1) (tG _ _ h2)) (tU (tL _ _ h3) (tL _ _ h4)) (tU (tG _ _ h5) (tL _ _ h6)) (tG _ _ h7) tQ]
                exact huff_of (G f (G e (G (G a b) (G c d)))) H7 3 (0,[0,1]) (0,[0,1,0,0,0,1]) (0,[0,0,0,1]) (0,[]) (0,[0,0,0,0,0,1]) (by kernel_rfl)
            · have H6:=H5.ge f (G (G a b) (G c d)) h6 rfl rfl
              rw [lO (tU tP tP) (tU (tG _ _ h1) (tG _ _ h2)) (tU (tL _ _ h3) (tL _ _ h4)) (tU (tG _ _ h5) (tG _ _ h6)) tQ tQ]
              exact huff_of (G (G (G a b) (G c d)) (G e f)) H6 0 (0,[]) (0,[0,0,0,0,1]) (0,[1,0,1]) (0,[1]) (0,[1,0,0,0,1]) (by kernel_rfl)
        · have H4:=H3.ge e (G c d) h4 rfl rfl
          by_cases h5:(Tr.ab w (G c d)).1<(Tr.ab w f).1
          · have H5:=H4.lt f (G c d) h5 rfl rfl
            by_cases h6:(Tr.ab w (G (G a b) e)).1<(Tr.ab w f).1
            · have H6:=H5.lt f (G (G a b) e) h6 rfl rfl
              by_cases h7:(Tr.ab w (G (G c d) (G (G a b) e))).1<(Tr.ab w f).1
              · have H7:=H6.lt f (G (G c d) (G (G a b) e)) h7 rfl rfl
                rw [lO (tU tP tP) (tU (tG _ _ h1) (tG _ _ h2)) (tU (tL _ _ h3) (tG _ _ h4)) (tU (tL _ _ h5) (tL _ _ h6)) (tL _ _ h7) tP]
                exact huff_of (G (G (G c d) (G (G a b) e)) f) H7 2 (0,[0,1]) (0,[0,1,0,0,0,1]) (0,[]) (0,[0,0,0,1]) (0,[0,0,0,1,0,1]) (by kernel_rfl)
              · have H7:=H6.ge f (G (G c d) (G (G a b) e)) h7 rfl rfl
                rw [lO (tU tP tP) (tU (tG _ _ h1) (tG _ _ h2)) (tU (tL _ _ h3) (tG _ _ h4)) (tU (tL _ _ h5) (tL _ _ h6)) (tG _ _ h7) tQ]
                exact huff_of (G f (G (G c d) (G (G a b) e))) H7 2 (0,[0,1]) (0,[0,1,0,0,0,1]) (0,[]) (0,[0,0,0,1]) (0,[0,0,0,1,0,1]) (by kernel_rfl)
            · have H6:=H5.ge f (G (G a b) e) h6 rfl rfl
              rw [lO (tU tP tP) (tU (tG _ _ h1) (tG _ _ h2)) (tU (tL _ _ h3) (tG _ _ h4)) (tU (tL _ _ h5) (tG _ _ h6)) tQ tQ]
              exact huff_of (G (G (G a b) e) (G (G c d) f)) H6 0 (0,[]) (0,[0,0,0,0,1]) (0,[1]) (0,[1,0,1]) (0,[1,0,1,0,1]) (by kernel_rfl)
          · have H5:=H4.ge f (G c d) h5 rfl rfl
            rw [lO (tU tP tP) (tU (tG _ _ h1) (tG _ _ h2)) (tU (tL _ _ h3) (tG _ _ h4)) (tU (tG _ _ h5) tQ) tQ tQ]
            exact huff_of (G (G (G a b) e) (G f (G c d))) H5 0 (0,[]) (0,[0,0,0,1]) (0,[1,0,1,1,1]) (0,[1,1,1,1,1]) (0,[1,1,1,2,1]) (by kernel_rfl)
      · have H3:=H2.ge e (G a b) h3 rfl rfl
        by_cases h4:(Tr.ab w (G a b)).1<(Tr.ab w f).1
        · have H4:=H3.lt f (G a b) h4 rfl rfl
          by_cases h5:(Tr.ab w (G c d)).1<(Tr.ab w f).1
          · have H5:=H4.lt f (G c d) h5 rfl rfl
            by_cases h6:(Tr.ab w (G e (G a b))).1<(Tr.ab w f).1
            · have H6:=H5.lt f (G e (G a b)) h6 rfl rfl
              by_cases h7:(Tr.ab w (G (G c d) (G e (G a b)))).1<(Tr.ab w f).1
              · have H7:=H6.lt f (G (G c d) (G e (G a b))) h7 rfl rfl
                rw [lO (tU tP tP) (tU (tG _ _ h1) (tG _ _ h2)) (tU (tG _ _ h3) (tL _ _ h4)) (tU (tL _ _ h5) (tL _ _ h6)) (tL _ _ h7) tP]
                exact huff_of (G (G (G c d) (G e (G a b))) f) H7 2 (0,[0,1]) (0,[0,1,0,0,0,1]) (0,[]) (0,[0,0,0,0,1,0,0,0,1,2,1]) (0,[0,0,0,0,1,0,0,1,1,1]) (by kernel_rfl)
              · have H7:=H6.ge f (G (G c d) (G e (G a b))) h7 rfl rfl
                rw [lO (tU tP tP) (tU (tG _ _ h1) (tG _ _ h2)) (tU (tG _ _ h3) (tL _ _ h4)) (tU (tL _ _ h5) (tL _ _ h6)) (tG _ _ h7) tQ]
                exact huff_of (G f (G (G c d) (G e (G a b)))) H7 2 (0,[0,1]) (0,[0,1,0,0,0,1]) (0,[]) (0,[0,0,0,0,1,0,0,0,1,2,1]) (2,[1,1,0,0,3,1,0,0,1,2]) (by kernel_rfl)
            · have H6:=H5.ge f (G e (G a b)) h6 rfl rfl
              rw [lO (tU tP tP) (tU (tG _ _ h1) (tG _ _ h2)) (tU (tG _ _ h3) (tL _ _ h4)) (tU (tL _ _ h5) (tG _ _ h6)) tQ tQ]
              exact huff_of (G (G e (G a b)) (G (G c d) f)) H6 0 (0,[]) (0,[0,0,0,0,1]) (0,[1]) (0,[1,0,0,1,0,0,0,1,2,1]) (1,[3,0,1,3,0,0,0,1,2]) (by kernel_rfl)
          · have H5:=H4.ge f (G c d) h5 rfl rfl
            rw [lO (tU tP tP) (tU (tG _ _ h1) (tG _ _ h2)) (tU (tG _ _ h3) (tL _ _ h4)) (tU (tG _ _ h5) tQ) tQ tQ]
            exact huff_of (G (G e (G a b)) (G f (G c d))) H5 0 (0,[]) (0,[0,0,0,1]) (0,[1,0,0,0,1,0,0,0,0,1]) (0,[2,1,0,1,1]) (0,[2,1,0,2,1]) (by kernel_rfl)
        · have H4:=H3.ge f (G a b) h4 rfl rfl
          rw [lO (tU tP tP) (tU (tG _ _ h1) (tG _ _ h2)) (tU (tG _ _ h3) (tG _ _ h4)) (tU tQ tQ) tQ tQ]
          exact huff_of (G (G e f) (G (G a b) (G c d))) H4 0 (0,[]) (0,[0,0,1]) (0,[1,1,0,0,0,1,2,2,2]) (0,[1,0,0,2,0,2,4,1]) (0,[1,0,0,0,3,2,1]) (by kernel_rfl)
noncomputable def rowsL (c:Nat→Nat):List (Nat×Nat)→List (List Nat)
  | []=>[]
  | p::l=>dC p.1::nmC (c p.2)::rowsL c l
theorem rows_app (c:Nat→Nat):∀ l r,rowsL c (l++r)=rowsL c l++rowsL c r
  | [],r=>rfl
  | p::l,r=>by
    show _::_::rowsL c (l++r)=_
    rw [rows_app c l r]
    rfl
theorem stuff_nm (k:Nat):stuff (nmC k)=nmC k:=by
  unfold nmC
  split<;>rfl
theorem stuff_d {n:Nat}(h:1≤n):stuff (dC n)=dC (n+1):=by
  obtain ⟨m,rfl⟩:∃ m,n=m+1:=⟨n-1,by omega⟩
  rfl
theorem rows_bump (c:Nat→Nat):∀ l:List (Nat×Nat),(∀ p∈l,1≤p.1)→(rowsL c l).map stuff=rowsL c (bump l)
  | [],_=>rfl
  | p::l,h=>by
    have ih:=rows_bump c l fun q hq=>h q (mO hq)
    show stuff (dC p.1)::stuff (nmC (c p.2))::(rowsL c l).map stuff=dC (p.1+1)::nmC (c p.2)::rowsL c (bump l)
    rw [stuff_d (h p mS),stuff_nm,ih]
structure Rl (c:Nat→Nat)(x:Tx)(a:Ab):Prop where
  w:x.1=a.1
  t:ET (rowsL c a.2) x.2
  d:∀ p∈a.2,1≤p.1
theorem Rl.glue {c:Nat→Nat}{x y:Tx}{a b:Ab}(h1:Rl c x a)(h2:Rl c y b)(k:Nat):Rl c (glue k x y) (glueA a b)∧(Mine.glue k x y).2=mailFrom (rowsL c (glueA a b).2):=by
  have hd:∀ p∈a.2++b.2,1≤p.1:=fun p hp=>by
    rcases List.mem_append.mp hp with h | h
    · exact h1.d p h
    · exact h2.d p h
  obtain ⟨e,t⟩:=glue_ET (k:=k) h1.t h2.t
  have es:(rowsL c a.2++rowsL c b.2).map stuff=rowsL c (glueA a b).2:=by rw [← rows_app,rows_bump c _ hd];rfl
  rw [es] at e t
  refine ⟨⟨?_,t,fun p hp=>?_⟩,e⟩
  · show x.1+y.1=a.1+b.1
    rw [h1.w,h2.w]
  · obtain ⟨q,_,rfl⟩:=List.mem_map.mp hp
    exact Nat.le_add_left 1 q.1
noncomputable def Rs (c:Nat→Nat):List Tx→List Ab→Prop
  | [],[]=>True
  | x::p,a::q=>Rl c x a∧Rs c p q
  | _,_=>False
theorem Rs.app {c:Nat→Nat}{x:Tx}{a:Ab}(h:Rl c x a):∀ {p:List Tx} {q:List Ab},Rs c p q→Rs c (p++[x]) (q++[a])
  | [],[],_=>⟨h,trivial⟩
  | y::p,b::q,k=>⟨k.1,Rs.app h k.2⟩
  | [],_::_,k=>k.elim
  | _::_,[],k=>k.elim
structure TkOk (c:Nat→Nat)(t:Tx×List Tx×List Tx)(a:Ab×List Ab×List Ab)(n:Nat):Prop where
  x:Rl c t.1 a.1
  p:Rs c t.2.1 a.2.1
  q:Rs c t.2.2 a.2.2
  n:t.2.1.length+t.2.2.length+1=n
theorem take_ok {c:Nat→Nat}:∀ {p q:List Tx} {a b:List Ab},Rs c p a→Rs c q b→1≤p.length+q.length→TkOk c (take p q) (takeA a b) (p.length+q.length)
  | [],[],[],[],_,_,h=>by simp at h
  | [],y::q,[],b::bs,hp,hq,_=>⟨hq.1,trivial,hq.2,by simp [take]⟩
  | x::p,[],a::as,[],hp,hq,_=>⟨hp.1,hp.2,trivial,by simp [take]⟩
  | x::p,y::q,a::as,b::bs,hp,hq,_=>by
    by_cases h:y.1<x.1
    · rw [show take (x::p) (y::q)=(y,x::p,q) from if_pos h,takeA_lt (by rw [← hp.1.w,← hq.1.w];exact h)]
      exact ⟨hq.1,hp,hq.2,by simp;omega⟩
    · rw [show take (x::p) (y::q)=(x,p,y::q) from if_neg h,takeA_ge (by rw [← hp.1.w,← hq.1.w];exact h)]
      exact ⟨hp.1,hp.2,hq,by simp;omega⟩
  | _::_,_,[],_,h,_,_=>h.elim
  | [],_,_::_,_,h,_,_=>h.elim
  | _,_::_,_,[],_,h,_=>h.elim
  | _,[],_,_::_,_,h,_=>h.elim
structure RPair (c:Nat→Nat)(t:List Tx×List Tx)(a:List Ab×List Ab)(n:Nat):Prop where
  p:Rs c t.1 a.1
  q:Rs c t.2 a.2
  n:t.1.length+t.2.length=n
theorem RPair.two {c:Nat→Nat}{t:List Tx×List Tx}{a:List Ab×List Ab}{n:Nat}(h:RPair c t a (n+2)):TkOk c (take t.1 t.2) (takeA a.1 a.2) (n+2)∧TkOk c (take (take t.1 t.2).2.1 (take t.1 t.2).2.2) (takeA (takeA a.1 a.2).2.1 (takeA a.1 a.2).2.2) (n+1):=by
  have h1:=take_ok h.p h.q (by rw [h.n];omega)
  rw [h.n] at h1
  have e:(take t.1 t.2).2.1.length+(take t.1 t.2).2.2.length=n+1:=by have:=h1.n;omega
  have h2:=take_ok h1.p h1.q (by rw [e];omega)
  rw [e] at h2
  exact ⟨h1,h2⟩
theorem RPair.turn {c:Nat→Nat}{t:List Tx×List Tx}{a:List Ab×List Ab}{n:Nat}(h:RPair c t a (n+2))(j:Nat):RPair c (turn j t) (turnA a) (n+1):=by
  obtain ⟨h1,h2⟩:=h.two
  refine ⟨h2.p,Rs.app (h1.x.glue h2.x j).1 h2.q,?_⟩
  have:=h2.n
  show (take (take t.1 t.2).2.1 (take t.1 t.2).2.2).2.1.length+((take (take t.1 t.2).2.1 (take t.1 t.2).2.2).2.2++[_]).length=n+1
  rw [List.length_append,List.length_singleton]
  omega
theorem last_rl {c:Nat→Nat}{p:List Tx}{a:List Ab}(h:Rs c p a)(h6:p.length=6):Rl c (lastOf p) (lastA a)∧(lastOf p).2=mailFrom (rowsL c (lastA a).2):=by
  have L0:RPair c (p,[]) (a,[]) (4+2):=⟨h,trivial,by show p.length+0=6;rw [h6]⟩
  have L1:RPair c (t1 p) (turnA (a,[])) (3+2):=L0.turn 0
  have L2:RPair c (t2 p) (turnA (turnA (a,[]))) (2+2):=L1.turn 1
  have L3:RPair c (t3 p) (turnA (turnA (turnA (a,[])))) (1+2):=L2.turn 2
  have L4:RPair c (t4 p) (turnA (turnA (turnA (turnA (a,[]))))) (0+2):=L3.turn 3
  obtain ⟨h1,h2⟩:=L4.two
  exact h1.x.glue h2.x 4
theorem plain_nm (k:Nat):PlainR (nmC k):=by
  unfold nmC
  split<;>exact ⟨by simp,by decide⟩
theorem leaf_rl {c w:Nat→Nat}{n j:Nat}(hw:n=w j):Rl c (n,46::10::nmC (c j)) (lv w j):=by
  refine ⟨hw,?_,fun p hp=>?_⟩
  · exact ET.cons [46] [10] [nmC (c j)] (nmC (c j)) ⟨by simp,by decide⟩ (.inl rfl) (.one _ (plain_nm _))
  · rw [List.mem_singleton.mp hp]
    exact Nat.le_refl 1
theorem six_rl (W o:Nat→Nat):Rl (fun j=>o (5-j)) (lastOf (six (xxO W o))) (lastA (lvs fun j=>W (o (5-j))))∧(lastOf (six (xxO W o))).2=mailFrom (rowsL (fun j=>o (5-j)) (lastA (lvs fun j=>W (o (5-j)))).2) :=
  last_rl (p:=six (xxO W o)) (a:=lvs fun j=>W (o (5-j))) ⟨leaf_rl rfl,leaf_rl rfl,leaf_rl rfl,leaf_rl rfl,leaf_rl rfl,leaf_rl rfl,trivial⟩ rfl
end
section
open PySem PySem.W PySem.W.X PySem.Spec PySem.Calls PyProof.Rows
set_option maxHeartbeats 1000000
theorem inj6 {f:Nat→Nat}(h:[f 0,f 1,f 2,f 3,f 4,f 5].Nodup){i j:Nat}(hi:i<6)(hj:j<6)(e:f i=f j):i=j:=by
  have key:∀ i (hi:i<6),[f 0,f 1,f 2,f 3,f 4,f 5][i]'hi=f i:=fun i hi=>by
    match i,hi with
    | 0,_=>rfl
    | 1,_=>rfl
    | 2,_=>rfl
    | 3,_=>rfl
    | 4,_=>rfl
    | 5,_=>rfl
  have hp:=List.pairwise_iff_getElem.mp h
  rcases Nat.lt_trichotomy i j with c | c | c
  · exact absurd (by rw [key i hi,key j hj];exact e) (hp i j hi hj c)
  · exact c
  · exact absurd (by rw [key i hi,key j hj];exact e.symm) (hp j i hj hi c)
theorem mem6 {f:Nat→Nat}{k:Nat}(h:k∈[f 0,f 1,f 2,f 3,f 4,f 5]):∃ i,i<6∧f i=k:=by
  simp only [List.mem_cons,List.not_mem_nil,or_false] at h
  rcases h with h | h | h | h | h | h
  · exact ⟨0,by decide,h.symm⟩
  · exact ⟨1,by decide,h.symm⟩
  · exact ⟨2,by decide,h.symm⟩
  · exact ⟨3,by decide,h.symm⟩
  · exact ⟨4,by decide,h.symm⟩
  · exact ⟨5,by decide,h.symm⟩
theorem row_nat (W o:Nat→Nat):∀ i,i<5→((rowN (fun j=>W (o (5-j))) i:Nat):Int)=rowCost (r5 i) W o
  | 0,_=>by show ((2*W (o 0)+(2*W (o 1)+(3*W (o 2)+(3*W (o 3)+(3*W (o 4)+(3*W (o 5)+0))))):Nat):Int)=2*((W (o 0):Nat):Int)+(2*((W (o 1):Nat):Int)+(3*((W (o 2):Nat):Int)+(3*((W (o 3):Nat):Int)+(3*((W (o 4):Nat):Int)+(3*((W (o 5):Nat):Int)+0)))));push_cast;rfl
  | 1,_=>by show ((2*W (o 0)+(2*W (o 1)+(2*W (o 2)+(3*W (o 3)+(4*W (o 4)+(4*W (o 5)+0))))):Nat):Int)=2*((W (o 0):Nat):Int)+(2*((W (o 1):Nat):Int)+(2*((W (o 2):Nat):Int)+(3*((W (o 3):Nat):Int)+(4*((W (o 4):Nat):Int)+(4*((W (o 5):Nat):Int)+0)))));push_cast;rfl
  | 2,_=>by show ((1*W (o 0)+(3*W (o 1)+(3*W (o 2)+(3*W (o 3)+(4*W (o 4)+(4*W (o 5)+0))))):Nat):Int)=1*((W (o 0):Nat):Int)+(3*((W (o 1):Nat):Int)+(3*((W (o 2):Nat):Int)+(3*((W (o 3):Nat):Int)+(4*((W (o 4):Nat):Int)+(4*((W (o 5):Nat):Int)+0)))));push_cast;rfl
  | 3,_=>by show ((1*W (o 0)+(2*W (o 1)+(4*W (o 2)+(4*W (o 3)+(4*W (o 4)+(4*W (o 5)+0))))):Nat):Int)=1*((W (o 0):Nat):Int)+(2*((W (o 1):Nat):Int)+(4*((W (o 2):Nat):Int)+(4*((W (o 3):Nat):Int)+(4*((W (o 4):Nat):Int)+(4*((W (o 5):Nat):Int)+0)))));push_cast;rfl
  | 4,_=>by show ((1*W (o 0)+(2*W (o 1)+(3*W (o 2)+(4*W (o 3)+(5*W (o 4)+(5*W (o 5)+0))))):Nat):Int)=1*((W (o 0):Nat):Int)+(2*((W (o 1):Nat):Int)+(3*((W (o 2):Nat):Int)+(4*((W (o 3):Nat):Int)+(5*((W (o 4):Nat):Int)+(5*((W (o 5):Nat):Int)+0)))));push_cast;rfl
noncomputable def natCost (W D:Nat→Nat):Nat:=(six0.map fun k=>W k*D k).sum
theorem my_nat (W D:Nat→Nat):myCost W D=((natCost W D:Nat):Int):=by
  show _=(((W 0*D 0+(W 1*D 1+(W 2*D 2+(W 3*D 3+(W 4*D 4+(W 5*D 5+0)))))):Nat):Int)
  unfold myCost
  push_cast
  rfl
structure FO (W o:Nat→Nat):Prop where
  perm:[o 0,o 1,o 2,o 3,o 4,o 5].Perm six0
  p1:W (o 1)≤W (o 0)
  p2:W (o 2)≤W (o 1)
  p3:W (o 3)≤W (o 2)
  p4:W (o 4)≤W (o 3)
  p5:W (o 5)≤W (o 4)
theorem fo_ord (W:Nat→Nat)(n:Nat):FO W (orI W n):=by
  obtain ⟨h1,h2⟩:=ord_falls W n
  obtain ⟨a,b,c,d,e,f,he⟩:=list6 (show (ord W n).length=6 from h1.length_eq)
  have ho:∀ j,orI W n j=[a,b,c,d,e,f].getD j 0:=fun j=>by unfold orI;rw [he]
  rw [he] at h1 h2
  simp only [List.pairwise_cons] at h2
  obtain ⟨q0,q1,q2,q3,q4,_⟩:=h2
  refine ⟨?_,?_,?_,?_,?_,?_⟩<;>simp only [ho]
  · exact h1
  · exact q0 b (by simp)
  · exact q1 c (by simp)
  · exact q2 d (by simp)
  · exact q3 e (by simp)
  · exact q4 f (by simp)
theorem FO.lt {W o:Nat→Nat}(h:FO W o){j:Nat}(hj:j<6):o j<6:=by
  refine lt6.mp (h.perm.mem_iff.mp ?_)
  match j,hj with
  | 0,_=>simp
  | 1,_=>simp
  | 2,_=>simp
  | 3,_=>simp
  | 4,_=>simp
  | 5,_=>simp
theorem FO.perm' {W o:Nat→Nat}(h:FO W o):(six0.map fun j=>o (5-j)).Perm six0 :=
  (show ([o 0,o 1,o 2,o 3,o 4,o 5].reverse).Perm six0 from (List.reverse_perm _).trans h.perm)
theorem sum6 {f:Nat→Nat}{l l':List Nat}(h:l.Perm l'):(l.map f).sum=(l'.map f).sum:=(h.map f).sum_nat
theorem cost_sum (w:Nat→Nat):∀ l:List (Nat×Nat),costL w l=(l.map fun p=>w p.2*(p.1-1)).sum
  | []=>rfl
  | p::l=>by
    show (p.1-1)*w p.2+costL w l=w p.2*(p.1-1)+_
    rw [cost_sum w l,Nat.mul_comm]
    rfl
theorem dat_of {W o:Nat→Nat}(h:FO W o)(hw:∀ k,k<6→1≤W k∧W k≤30):∃ x,DOk W o x:=by
  have H:HuffOk (fun j=>W (o (5-j))) (lastA (lvs fun j=>W (o (5-j)))):=huff h.p5 h.p4 h.p3 h.p2 h.p1
  obtain ⟨R,E⟩:=six_rl W o
  generalize hz:lastA (lvs fun j=>W (o (5-j)))=z at H R E
  have hl:z.2.length=6:=by
    have:=H.perm.length_eq
    rw [List.length_map] at this
    exact this
  obtain ⟨x0,x1,x2,x3,x4,x5,e6⟩:=list6 hl
  obtain ⟨q,hq⟩:∃ q:Nat→Nat×Nat,z.2=[q 0,q 1,q 2,q 3,q 4,q 5]:=⟨fun i=>[x0,x1,x2,x3,x4,x5].getD i (0,0),e6⟩
  have hper:=H.perm
  have hdep:=H.dep
  have hsum:=H.sum
  have hm:=H.mem
  have hle:=H.le
  rw [hq] at hper hdep hm hle E
  have hmq:∀ i,i<6→q i∈[q 0,q 1,q 2,q 3,q 4,q 5]:=fun i hi=>by
    match i,hi with
    | 0,_=>simp
    | 1,_=>simp
    | 2,_=>simp
    | 3,_=>simp
    | 4,_=>simp
    | 5,_=>simp
  have hd:∀ i,i<6→2≤(q i).1∧(q i).1≤6:=fun i hi=>hdep _ (hmq i hi)
  have hcc:[o (5-(q 0).2),o (5-(q 1).2),o (5-(q 2).2),o (5-(q 3).2),o (5-(q 4).2),o (5-(q 5).2)].Perm six0:=(hper.map fun j=>o (5-j)).trans h.perm'
  have hnd:[o (5-(q 0).2),o (5-(q 1).2),o (5-(q 2).2),o (5-(q 3).2),o (5-(q 4).2),o (5-(q 5).2)].Nodup:=hcc.nodup_iff.mpr (by decide)
  have hpos:∀ k,∃ i,k<6→i<6∧o (5-(q i).2)=k:=fun k=>by
    by_cases hk:k<6
    · obtain ⟨i,h1,h2⟩:=mem6 (f:=fun i=>o (5-(q i).2)) (hcc.mem_iff.mpr (lt6.mpr hk))
      exact ⟨i,fun _=>⟨h1,h2⟩⟩
    · exact ⟨0,fun z=>absurd z hk⟩
  obtain ⟨pos,hp⟩:∃ pos:Nat→Nat,∀ k,k<6→pos k<6∧o (5-(q (pos k)).2)=k:=⟨fun k=>(hpos k).choose,fun k=>(hpos k).choose_spec⟩
  have hpc:∀ i,i<6→pos (o (5-(q i).2))=i:=fun i hi=>by
    have hk:o (5-(q i).2)<6:=h.lt (by omega)
    obtain ⟨a,b⟩:=hp _ hk
    exact inj6 (f:=fun i=>o (5-(q i).2)) hnd a hi b
  have hcost:natCost W (fun k=>(q (pos k)).1-1)=costL (fun j=>W (o (5-j))) [q 0,q 1,q 2,q 3,q 4,q 5]:=by
    rw [cost_sum]
    unfold natCost
    rw [← sum6 hcc]
    simp only [List.map_cons,List.map_nil]
    rw [hpc 0 (by decide),hpc 1 (by decide),hpc 2 (by decide),hpc 3 (by decide),hpc 4 (by decide),hpc 5 (by decide)]
  refine ⟨⟨z.1,fun i=>(q i).1,fun i=>o (5-(q i).2),pos,fun k=>(q (pos k)).1-1⟩,⟨⟨?_⟩,fun i hi=>⟨by have:=(hd i hi).1;show 1≤(q i).1;omega,(hd i hi).2⟩,hcc,hp,?_⟩,⟨fun k hk=>?_,?_,fun i hi=>?_⟩⟩
  · exact Prod.ext R.w E
  · have e:W (o 5)+W (o 4)+W (o 3)+W (o 2)+W (o 1)+W (o 0)=z.1:=hsum.symm
    have e2:W (o 0)+(W (o 1)+(W (o 2)+(W (o 3)+(W (o 4)+(W (o 5)+0)))))=W 0+(W 1+(W 2+(W 3+(W 4+(W 5+0))))):=sum6 (f:=W) h.perm
    show ((z.1:Nat):Int)=_
    omega
  · have:=(hd _ (hp k hk).1).1
    show (((q (pos k)).1:Nat):Int)-1=(((q (pos k)).1-1:Nat):Int)
    omega
  · rw [my_nat,hcost]
    rcases hm with h | h | h | h | h
    · exact .inl (by rw [h];exact row_nat W o 0 (by decide))
    · exact .inr (.inl (by rw [h];exact row_nat W o 1 (by decide)))
    · exact .inr (.inr (.inl (by rw [h];exact row_nat W o 2 (by decide))))
    · exact .inr (.inr (.inr (.inl (by rw [h];exact row_nat W o 3 (by decide)))))
    · exact .inr (.inr (.inr (.inr (by rw [h];exact row_nat W o 4 (by decide)))))
  · rw [my_nat,hcost,← row_nat W o i hi]
    exact Int.ofNat_le.mpr (hle i hi)
theorem hp_all:∀ v:List Iv,v.length≤63→∃ sl W,WOk v sl W∧∀ n,OOk W (orI W n)∧∃ x,DOk W (orI W n) x:=by
  intro v hv
  have hsl:∀ k:Nat,∃ u:List Iv,(slicePick (ivs v).toArray (some (k:Nat)) (some 63) (some 6)).toList=ivs u:=fun k=>by
    obtain ⟨u,h,_⟩:=intsV ((intsAre v).pick (some (k:Nat)) (some 63) (some 6))
    exact ⟨u,h⟩
  obtain ⟨sl,hs⟩:∃ sl:Nat→List Iv,∀ k:Nat,(slicePick (ivs v).toArray (some (k:Nat)) (some 63) (some 6)).toList=ivs (sl k):=⟨fun k=>(hsl k).choose,fun k=>(hsl k).choose_spec⟩
  have hw:∀ k,1+((bw k:Nat)+sm (sl k))%30=(((1+((bw k:Nat)+sm (sl k))%30).toNat:Nat):Int)∧1≤(1+((bw k:Nat)+sm (sl k))%30).toNat∧(1+((bw k:Nat)+sm (sl k))%30).toNat≤30:=fun k=>by
    generalize ((bw k:Nat):Int)+sm (sl k)=t
    omega
  refine ⟨sl,fun k=>(1+((bw k:Nat)+sm (sl k))%30).toNat,⟨hv,fun k _=>hs k,fun k _=>(hw k).1⟩,fun n=>⟨⟨fun j hj=>(fo_ord _ n).lt hj,fun k _=>(hw k).2⟩,dat_of (fo_ord _ n) fun k _=>(hw k).2⟩⟩
end
end Mine
end
theorem PySem.Challenge.cw_rs0045_01_holds : PySem.Challenge.rw_rs0045_01.Holds :=
  Mine.holds_of_law (Mine.law_does Mine.hp_all)
